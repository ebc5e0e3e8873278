/-
  The reference's stream.
-/
import Derived.Test.YtemcpcgcnjahjaaGreatDoorData
namespace Go.Proofs.YtemcpcgcnjahjaaGreatDoor
open Go.RowKit

/-- Between the frames of Exact. -/
def ExRel (i : PInfo) (va : Bool) (fs : List PFrame) (w : World) (k : Nat) (v : Value) (wx : World) : Prop :=
  ∃ go cap, v = .slice (some ⟨go, 0, none⟩) (streamB i va fs k).length cap ∧ wx.ownsRow w.heap.size 5 1 (.slice (some ⟨go, 0, none⟩) (streamB i va fs k).length cap) (streamB i va fs k).length (Lib.byteCells (streamB i va fs k)) ∧
    wx.heap[w.heap.size]? = some (.cells #[.int .i64 16, .int .i64 4096, .int .i64 0, .int .i64 0, .int .i64 i.rate, .int .i64 i.nch, .int .i64 i.bits, .int .u64 i.smp, .slice none 0 0] 37 (0, 0)) ∧ Kp [] w wx

theorem Kp.thenFr {a b c : World} {B : Nat} {S : List Nat} (h : Kp [] a b) (k : Fr B S b c) (hB : a.heap.size ≤ B) : Kp [] a c :=
  ⟨k.os.trans h.os, k.tape.trans h.tape, k.output.trans h.output, Nat.le_trans h.size k.size, fun i hi _ => (k.below i (Nat.lt_of_lt_of_le hi hB)).trans (h.block i hi (by simp))⟩

theorem AllAt.getK {A : Nat} {fs : List PFrame} {w : World} (h : AllAt A fs w) {k : Nat} {f : PFrame} (hk : fs[k]? = some f) :
    ∃ a cap, (∀ w', Kp [] w w' → w'.cell? ⟨A, k, none⟩ = some (.slice (some ⟨a, 0, none⟩) f.subs.length cap)) ∧ RowAt a f.subs w := by
  obtain ⟨sc, h1, h2⟩ := h
  obtain ⟨a, cap, h3, h4⟩ := h2 k f hk
  exact ⟨a, cap, fun w' kp => (Lib.cell_of_heap (kp.at h1 (by simp)) _).trans h3, h4⟩

theorem PFrame.bytes_len (f : PFrame) (num : Nat) (hok : f.Ok) : (f.bytes num).length ≤ 200000000 := by
  have h := f.cnt_le num f.subs.length hok
  rw [List.take_length] at h
  have e : f.front num = (wrB (wrB (f.head num, []) f.body) (padB (wrB (f.head num, []) f.body))).1 := rfl
  have h2 := cnt_wrB (wrB (f.head num, []) f.body) (padB (wrB (f.head num, []) f.body))
  have h3 : (padB (wrB (f.head num, []) f.body)).length ≤ 8 := by
    unfold padB
    split
    · simp
    · rw [List.length_replicate]; omega
  have h4 : cnt (wrB (f.head num, []) f.body) ≤ 1000000000 := h
  unfold PFrame.bytes
  rw [e, List.length_append]
  generalize wrB (wrB (f.head num, []) f.body) (padB (wrB (f.head num, []) f.body)) = x at h2
  have h5 : cnt x = 8 * x.1.length + x.2.length := rfl
  simp only [List.length_cons, List.length_nil]
  omega
theorem PFrame.front_pos (f : PFrame) (num : Nat) : 0 < (f.front num).length := by
  have e : f.front num = (wrB (wrB (f.head num, []) f.body) (padB (wrB (f.head num, []) f.body))).1 := rfl
  have h2 := cnt_wrB (wrB (f.head num, []) f.body) (padB (wrB (f.head num, []) f.body))
  have h3 := cnt_wrB (f.head num, []) f.body
  have h4 := wrB_pad (wrB (f.head num, []) f.body) (wrB_rest _ _ (by simp))
  have h5 : 4 ≤ (headB (!f.varies) f.size f.rate f.assign f.bits num).length := headB_pos _ _ _ _ _ _
  have h6 : (f.head num).length = (headB (!f.varies) f.size f.rate f.assign f.bits num).length + 1 := by
    unfold PFrame.head
    rw [List.length_append, List.length_singleton]
  rw [e]
  generalize wrB (wrB (f.head num, []) f.body) (padB (wrB (f.head num, []) f.body)) = x at h2 h4
  have h7 : cnt x = 8 * x.1.length + x.2.length := rfl
  have h8 : cnt (f.head num, []) = 8 * (f.head num).length + 0 := rfl
  rw [h4, List.length_nil] at h7
  omega
theorem stream_len {i : PInfo} {va : Bool} {fs : List PFrame} (h : FsOk i va fs) (k : Nat) : (streamB i va fs k).length ≤ 42 + k * 200000000 := by
  induction k with
  | zero =>
    have h := i.bytes_length
    show i.bytes.length ≤ _
    omega
  | succ k ih =>
    cases hk : fs[k]? with
    | none =>
      have e : streamB i va fs (k + 1) = streamB i va fs k ++ [] := by
        show streamB i va fs k ++ _ = _
        rw [hk]
      rw [e, List.append_nil, Nat.add_mul]
      exact Nat.le_trans ih (by omega)
    | some f =>
      have := f.bytes_len (numV va fs k) (h.ok f (List.mem_of_getElem? hk))
      rw [streamB_succ i va fs k f hk, List.length_append, Nat.add_mul]
      have e : 1 * 200000000 = 200000000 := Nat.one_mul _
      rw [e]
      omega

/-- How many bits lack up to a whole byte. -/
def lackAt (W : Nat) (w : World) : Nat := match w.cell? ⟨W, 1, none⟩ with
  | some (.int _ n) => ((8 - n % 8) % 8).toNat
  | _ => 0
theorem lackAt_eq {B W : Nat} {s : List UInt8 × List Bool} {w : World} (h : SW B W s w) : lackAt W w = (8 - cnt s % 8) % 8 := by
  obtain ⟨v, h1, _⟩ := h
  have c1 := Lib.cell_of_heap h1 1
  simp only [List.getElem?_toArray, List.getElem?_cons_zero, List.getElem?_cons_succ] at c1
  unfold lackAt
  rw [c1]
  show ((8 - ((cnt s : Nat) : Int) % 8) % 8).toNat = _
  omega

set_option maxRecDepth 100000 in
set_option maxHeartbeats 8000000 in
/-- spec.Exact. -/
theorem specExact (i : PInfo) (va : Bool) (fs : List PFrame) (hb hcap A acap : Nat) (w : World) (hi : i.Ok) (hfs : FsOk i va fs) (hH : HeadsAt hb fs w) (hA : AllAt A fs w) :
    Calls Tryz.prog 17 #[i.v, .slice (some ⟨hb, 0, none⟩) fs.length hcap, .slice (some ⟨A, 0, none⟩) fs.length acap] w (NewBytes (streamB i va fs fs.length) w) := by
  have HI := Bx.mk hi; clear hi
  have HF := Bx.mk hfs; clear hfs
  have HH := Bx.mk hH; clear hH
  have HA := Bx.mk hA; clear hA
  unfold PInfo.v
  generalize hO : (Obj.cells #[.int .i64 16, .int .i64 4096, .int .i64 0, .int .i64 0, .int .i64 i.rate, .int .i64 i.nch, .int .i64 i.bits, .int .u64 i.smp, .slice none 0 0] 37 (0, 0)) = O
  have HO := Bx.mk (heap_alloc_new w O)
  have HK0 := Bx.mk (Kp.alloc [] w O)
  have HSI : Bx (∀ wz, Calls Tryz.prog 22 #[i.v, .bool true] wz (NewBytes (i.out true) wz)) := ⟨fun wz => specInfo i true wz HI.out⟩
  unfold PInfo.v at HSI
  subst hO
  have hfw := HF.out.few
  go_enter Tryz.func17, Tryz.ntmps17
  go_wp2_with fail
  refine (HSI.out _).mono ?_
  rintro e w1 ⟨g1, cap1, rfl, hown, hk1⟩
  have HR0 : Bx (ExRel i va fs w 0 (.slice (some ⟨g1, 0, none⟩) (i.out true).length cap1) w1) := ⟨g1, cap1, rfl, ownsRow_base hown (by simp), hk1.at HO.out (by simp), HK0.out.trans hk1⟩
  clear hown hk1
  go_wp2_with fail
  go_loopw [7, 8, 18] (fun v a j wx => ∃ k : Nat, k ≤ fs.length ∧ j = .int .i64 k ∧ a = .int .i64 (aheadOf fs k : Nat) ∧ ExRel i va fs w k v wx) (fun _ _ j _ => fs.length - (intOf j).toNat)
  case atStart => exact ⟨0, by omega, rfl, rfl, HR0.out⟩
  case round =>
    clear HR0 HSI HK0 HO
    obtain ⟨k, hk, rfl, rfl, go, cap, rfl, hown, hin, hkp⟩ := hrel
    obtain ⟨wo, rfl⟩ : ∃ wo : World, wo = wr := ⟨_, rfl⟩
    have HOW := Bx.mk hown
    have HIN := Bx.mk hin
    have HKP := Bx.mk hkp
    clear hown hin hkp
    by_cases hkn : k < fs.length
    · have hfk : fs[k]? = some fs[k] := List.getElem?_eq_getElem hkn
      have hmem : fs[k] ∈ fs := List.getElem_mem hkn
      generalize fs[k] = f at hfk hmem
      have HFK := Bx.mk hfk
      have HFO := Bx.mk (HF.out.ok f hmem)
      have hvv := HF.out.same f hmem
      have HFB := Bx.mk (HF.out.bits f hmem)
      clear hmem
      have hh := HH.out.kp HKP.out
      have c0 := hh.cell hfk 0 rfl
      have c1 := hh.cell hfk 1 rfl
      have c2 := hh.cell hfk 2 rfl
      have c3 := hh.cell hfk 3 rfl
      have c4 := hh.cell hfk 4 rfl
      have c5 := hh.cell hfk 5 rfl
      simp only [Nat.add_zero] at c0
      rw [hvv] at c0
      have hsz1 := HFO.out.size1
      have hsz2 := HFO.out.size2
      have hah := HF.out.ahead k
      have has := aheadOf_succ fs k f hfk
      have HAS := Bx.mk has
      have HVV := Bx.mk hvv
      clear hh hfk hvv has
      go_upto_if 27 with fail
      go_cut [] from 28 to 30 (fun wx => wx.heap[wo.heap.size]? = some (.cells #[.bool va, .int .i64 f.size, .int .i64 f.rate, .int .i64 f.assign, .int .i64 f.bits, .int .u64 (numV va fs k : Nat)] 43 (0, 0)) ∧ Kp [] wo wx)
      case first =>
        have HN1 : Bx (numV false fs k = k) := ⟨rfl⟩
        have HN2 : Bx (numV true fs k = aheadOf fs k) := ⟨rfl⟩
        clear c0 c1 c2 c3 c4 c5 HAS HVV HFB HFO HFK HOW HIN HKP HF HI HH HA
        cases va
        · go_wp2_with fail
          go_meet
          case rel =>
            rw [HN1.out]
            exact ⟨heap_alloc_new _ _, Kp.alloc _ _ _⟩
        · go_wp2_with fail
          go_meet
          case rel =>
            rw [HN2.out]
            exact ⟨heap_alloc_new _ _, Kp.alloc _ _ _⟩
      case rest =>
        obtain ⟨hhd, hk2⟩ := hcut
        clear c0 c1 c2 c3 c4 c5
        have hnum := HF.out.num k hk
        have HNU : Bx (numV va fs k = numV va fs k) := ⟨rfl⟩
        generalize hnu : numV va fs k = num at hhd hnum
        replace HNU := Bx.mk hnu
        clear hnu
        have d0 := Lib.cell_of_heap hhd 0
        have d1 := Lib.cell_of_heap hhd 1
        have d2 := Lib.cell_of_heap hhd 2
        have d3 := Lib.cell_of_heap hhd 3
        have d4 := Lib.cell_of_heap hhd 4
        have d5 := Lib.cell_of_heap hhd 5
        simp only [List.getElem?_toArray, List.getElem?_cons_zero, List.getElem?_cons_succ] at d0 d1 d2 d3 d4 d5
        have HK2 := Bx.mk hk2
        clear hhd hk2
        go_wp2_with fail
        clear d0 d1 d2 d3 d4 d5
        refine (specHead va f.size f.rate f.assign f.bits num _ hsz2 hsz1 HFO.out.rate HFO.out.bits (by omega)).mono ?_
        rintro e w2 ⟨g2, cap2, rfl, hown, hk3⟩
        have ehd : headS (!va) f.size f.rate f.assign f.bits num = f.head num := by
          rw [← HVV.out]; rfl
        rw [ehd] at hown ⊢
        have HHL := Bx.mk (f.head_length num)
        have HK3 := Bx.mk (HK2.out.trans hk3)
        have HB3 : Bx (wo.heap.size ≤ wc.heap.size) := ⟨HK2.out.size⟩
        have hW : (w2.alloc (.cells #[.slice (some ⟨g2, 0, none⟩) (f.head num).length cap2, .int .i64 (8 * ((f.head num).length : Int))] 158)).heap[w2.heap.size]? = some (.cells #[.slice (some ⟨g2, 0, none⟩) (f.head num).length cap2, .int .i64 (8 * ((f.head num).length : Int))] 158 (0, 0)) := heap_alloc_new _ _
        have HSW : Bx (SW wo.heap.size w2.heap.size (f.head num, []) (w2.alloc (.cells #[.slice (some ⟨g2, 0, none⟩) (f.head num).length cap2, .int .i64 (8 * ((f.head num).length : Int))] 158))) := by
          refine ⟨_, ?_, (ownsRow_base hown HB3.out).alloc _, by simp, HK3.out.size, ?_⟩
          · rw [hW]
            simp [cnt]
          · have := HK3.out.size
            simp only [World.size_alloc]; omega
        have HK4 := Bx.mk (HK3.out.trans (Kp.alloc [] w2 (.cells #[.slice (some ⟨g2, 0, none⟩) (f.head num).length cap2, .int .i64 (8 * ((f.head num).length : Int))] 158)))
        obtain ⟨a, acp, hca0, hra⟩ := HA.out.getK HFK.out
        have hca := hca0 _ (HKP.out.trans HK4.out)
        have HRA := Bx.mk hra
        have HIN4 := Bx.mk ((HK4.out.at HIN.out (by simp)))
        clear hown hk3 ehd hW hra hca0
        have hl41 := HHL.out
        go_upto_region 12 with fail
        generalize w2.alloc (.cells #[.slice (some ⟨g2, 0, none⟩) (f.head num).length cap2, .int .i64 (8 * ((f.head num).length : Int))] 158) = w3 at HSW HK4 hca HIN4 ⊢
        have hs8 := HFO.out.few
        have hb32 := HI.out.bits2
        go_wp2_with fail
        clear hca
        go_loopw [53] (fun j wx => ∃ c : Nat, c ≤ f.subs.length ∧ j = .int .i64 c ∧ SW wo.heap.size w2.heap.size (wrB (f.head num, []) ((f.subs.take c).flatMap (fun s => s.bits f.bits))) wx ∧ Kp [] wo wx) (fun j _ => f.subs.length - (intOf j).toNat)
        case atStart => exact ⟨0, by omega, rfl, by simpa [wrB_nil] using HSW.out, HK4.out⟩
        case round =>
          clear HSW HK4 HIN4
          obtain ⟨c, hc, rfl, hsw, hkp4⟩ := hrel
          have HSW := Bx.mk hsw
          have HK4 := Bx.mk hkp4
          have hin := hkp4.at HIN.out (by simp)
          have i6 := Lib.cell_of_heap hin 6
          simp only [List.getElem?_toArray, List.getElem?_cons_zero, List.getElem?_cons_succ] at i6
          have hwl := Lib.lt_of_heap hin
          clear hsw hkp4 hin
          by_cases hcn : c < f.subs.length
          · have HCN := Bx.mk hcn
            have HTK := Bx.mk (f.body_take c hcn)
            have HCL := Bx.mk (f.cnt_le num c HFO.out)
            have HSO := Bx.mk (HFO.out.subs f.subs[c] (List.getElem_mem hcn))
            obtain ⟨P, pcap, g, gcap, hgc, hg, hp, hcl⟩ := (HRA.out.kp (HKP.out.trans HK4.out)).get (List.getElem?_eq_getElem hcn)
            generalize f.subs[c] = sb at HTK HSO hgc hg hp hcl
            have b0 := hcl 0 (.int .i64 sb.kind) rfl
            have b1 := hcl 1 (.int .i64 sb.ord) rfl
            have b2 := hcl 2 (.int .i64 sb.parts) rfl
            have b3 := hcl 3 (.slice (some ⟨P, 0, none⟩) sb.pars.length pcap) rfl
            have b4 := hcl 4 (.slice (some ⟨g, 0, none⟩) sb.smp.length gcap) rfl
            simp only [Nat.add_zero] at b0
            have HG := Bx.mk hg
            have HP := Bx.mk hp
            clear hcl hg hp
            have HSA := Bx.mk (HSW.out.kp (Kp.alloc [] wr (.cells #[.int .i64 sb.kind, .int .i64 sb.ord, .int .i64 sb.parts, .slice (some ⟨P, 0, none⟩) sb.pars.length pcap, .slice (some ⟨g, 0, none⟩) sb.smp.length gcap] 87)) (by simp))
            go_wp2_with fail
            clear b0 b1 b2 b3 b4 i6
            refine (specGiven sb wo.heap.size w2.heap.size P pcap g gcap i.bits _ _ HSA.out (HG.out.alloc _) (HP.out.alloc _) HSO.out (by omega) hgc (by have := HCL.out; omega)).mono ?_
            rintro e w5 ⟨rfl, hsw, hf⟩
            rw [← wrB_append, ← HFB.out, ← HTK.out] at hsw
            have HS5 := Bx.mk hsw
            have HK5 := Bx.mk ((HK4.out.trans (Kp.alloc [] wr _)).thenFr hf (Nat.le_refl _))
            clear hsw hf HSW HK4
            go_wp2_with fail
            go_roundw
            case rel => exact ⟨c + 1, HCN.out, by go_num, HS5.out, HK5.out⟩
            case measure =>
              have := HCN.out
              simp [intOf]; omega
          · obtain rfl : c = f.subs.length := by omega
            have HBD : Bx ((f.subs.take f.subs.length).flatMap (fun s => s.bits f.bits) = f.body) := ⟨by rw [List.take_length]; rfl⟩
            rw [HBD.out] at HSW
            have HFR : Bx (f.front num = (wrB (wrB (f.head num, []) f.body) (padB (wrB (f.head num, []) f.body))).1) := ⟨rfl⟩
            have HC9 : Bx (cnt (wrB (f.head num, []) f.body) ≤ 1000000000) := by
              have h := f.cnt_le num f.subs.length HFO.out
              rw [HBD.out] at h
              exact ⟨h⟩
            have hfew := HSW.out.few
            have hpw := wrB_pad _ hfew
            have hpe := padB_eq _ hfew
            have hcm := cnt_mod _ hfew
            generalize wrB (f.head num, []) f.body = s0 at HSW HFR HC9 hfew hpw hpe hcm
            have HPW := Bx.mk hpw
            have HPE := Bx.mk hpe
            have HCM := Bx.mk hcm
            clear hpw hpe hcm i6
            go_wp2_with fail
            go_loopw [] (fun wx => ∃ t : Nat, t ≤ (8 - s0.2.length) % 8 ∧ SW wo.heap.size w2.heap.size (wrB s0 (List.replicate t false)) wx ∧ Kp [] wo wx) (fun wx => lackAt w2.heap.size wx)
            case atStart => exact ⟨0, by omega, by simpa [wrB_nil] using HSW.out, HK4.out⟩
            case round =>
              clear HSW HK4
              obtain ⟨t, ht, hsw, hkp⟩ := hrel
              have HS := Bx.mk hsw
              have HK := Bx.mk hkp
              obtain ⟨v, hW, _⟩ := id hsw
              have c1 := Lib.cell_of_heap hW 1
              have hWl := Lib.lt_of_heap hW
              simp only [List.getElem?_toArray, List.getElem?_cons_zero, List.getElem?_cons_succ] at c1
              have hct := cnt_wrB s0 (List.replicate t false)
              rw [List.length_replicate] at hct
              have HCT := Bx.mk hct
              have hc8 := HCM.out
              have hc9 := HC9.out
              generalize cnt (wrB s0 (List.replicate t false)) = n at c1 hct
              clear hsw hkp hW
              by_cases htt : t < (8 - s0.2.length) % 8
              · have HTT := Bx.mk htt
                have hz1 : ((n : Int) % 8 != 0) = true := by
                  simp only [bne_iff_ne, ne_eq]; omega
                have hz2 : ((n : Int) % 8 == 0) = false := by
                  simp only [beq_eq_false_iff_ne, ne_eq]; omega
                have hn0 : n ≤ 2000000000 := by omega
                clear hct hc8
                go_wp2_with fail
                clear c1
                refine (swordI wo.heap.size w2.heap.size 0 1 _ _ HS.out (by omega) (by omega) (by have := HCT.out; rw [this]; simp; omega)).mono ?_
                rintro e w6 ⟨rfl, hsw, hf, _⟩
                rw [show bitsN 0 (1 : Int).toNat = [false] from rfl, ← wrB_append, ← List.replicate_succ'] at hsw
                have HS6 := Bx.mk hsw
                have HK6 := Bx.mk (HK.out.thenFr hf (Nat.le_refl _))
                clear hsw hf
                go_wp2_with fail
                go_roundw
                case rel => exact ⟨t + 1, HTT.out, HS6.out, HK6.out⟩
                case measure =>
                  have h1 := lackAt_eq HS6.out
                  have h2 := lackAt_eq HS.out
                  rw [h1, h2]
                  have h3 := cnt_wrB s0 (List.replicate (t + 1) false)
                  have h4 := HCT.out
                  have h5 := HTT.out
                  have h6 := HCM.out
                  rw [List.length_replicate] at h3
                  omega
              · obtain rfl : t = (8 - s0.2.length) % 8 := by omega
                have hz1 : ((n : Int) % 8 != 0) = false := by
                  simp only [bne_eq_false_iff_eq]; omega
                have hz2 : ((n : Int) % 8 == 0) = true := by
                  simp only [beq_iff_eq]; omega
                have hst : wrB s0 (List.replicate ((8 - s0.2.length) % 8) false) = (f.front num, []) := by
                  rw [← HPE.out, HFR.out, ← HPW.out]
                have HS1 := HS.out
                rw [hst] at HS1
                have HSF := Bx.mk HS1
                have hlf := cnt_wrB s0 (List.replicate ((8 - s0.2.length) % 8) false)
                rw [hst, List.length_replicate] at hlf
                simp only [cnt, List.length_nil] at hlf
                have HLF : Bx ((f.front num).length ≤ 200000000) := ⟨by unfold cnt at hc9; omega⟩
                have hfp := f.front_pos num
                have hS9 := HSF.out
                clear hlf hst HS1 HS HPW HPE HCM HCT hct hc8 hfew
                clear HC9 hz1 HFR HBD hc hcn hwl hs8
                obtain ⟨vw, hW, hown, _, _, _⟩ := hS9
                rw [outB_whole _ rfl] at hown
                obtain ⟨g', cap', rfl, hg1, hg2⟩ := hown.form hfp
                have c0 := Lib.cell_of_heap hW 0
                simp only [List.getElem?_toArray, List.getElem?_cons_zero] at c0
                have HBA : Bx (BytesAt g' 0 (f.front num) wr) := by
                  refine ⟨fun i x hx => ?_⟩
                  have h1 := hown.cellAt i (by simpa using (List.getElem?_eq_some_iff.1 hx).1)
                  rw [Nat.zero_add, h1]
                  simp [Lib.byteCells, hx]
                clear hW hown
                have HFW := Bx.mk hfw
                clear hb32 hah hsz1 hsz2 hnum ht htt hl41
                go_wp2_with fail
                clear c0 c1 hz2
                refine (scrc16a g' cap' _ _ HBA.out (by have := HLF.out; omega)).mono ?_
                rintro e w7 ⟨rfl, q, rfl⟩
                go_wp2_with fail
                refine (swordI wo.heap.size w2.heap.size _ 16 _ _ (HSF.out.kp (Kp.drewN [] wr q) (by simp)) (by omega) (by omega) (by have := HLF.out; simp only [cnt, List.length_nil]; rw [show (16 : Int).toNat = 16 from rfl]; omega)).mono ?_
                rintro e w8 ⟨rfl, hsw, hf, _⟩
                rw [show (16 : Int).toNat = 16 from rfl, wrB_two _ _ (by have := (crc16 (f.front num)).isLt; omega)] at hsw
                have HS8 : Bx (SW wo.heap.size w2.heap.size (f.bytes num, []) w8) := ⟨hsw⟩
                have HK8 := Bx.mk ((HK.out.trans (Kp.drewN [] wr q)).thenFr hf (Nat.le_refl _))
                have HBL := Bx.mk (f.bytes_len num HFO.out)
                have hbp : 0 < (f.bytes num).length := by
                  unfold PFrame.bytes
                  rw [List.length_append]; omega
                clear hsw hf HK HSF HBA
                obtain ⟨vw, hW, hown, _, _, _⟩ := id HS8.out
                rw [outB_whole _ rfl] at hown
                obtain ⟨g3, cap3, rfl, hg3, hg4⟩ := hown.form hbp
                have c0 := Lib.cell_of_heap hW 0
                simp only [List.getElem?_toArray, List.getElem?_cons_zero] at c0
                have HOB := Bx.mk (ownsRow_kp HOW.out HK8.out (by simp))
                have HSL := Bx.mk (stream_len HF.out k)
                have HNB : Bx (∀ (j : Nat) u, (Lib.byteCells (f.bytes num))[j]? = some u → w8.cell? ((⟨g3, 0, none⟩ : Addr).add j) = some u) := by
                  refine ⟨fun j u hj => ?_⟩
                  rw [Lib.addr_add, Nat.zero_add, hown.cellAt j (by have := (List.getElem?_eq_some_iff.1 hj).1; rw [byteCells_length] at this; simpa using this)]
                  exact hj
                obtain ⟨i0, hi, hz0, hz1, hz2⟩ := info_parts Tryz.info5c
                have HSZ : Bx (w.heap.size ≤ w8.heap.size) := ⟨Nat.le_trans HKP.out.size HK8.out.size⟩
                have HKW := Bx.mk (HKP.out.trans HK8.out)
                have HIN8 := Bx.mk (HK8.out.at HIN.out (by simp))
                clear hW hown
                go_wp2_with (at_builtin; refine wpList_append_lies _ rfl (.tmp 78) (.tmp 82) 23 rfl w.heap.size 5 i0 (.int .u8 0) 1 1 Tryz.underlying23 hi hz0 hz1 hz2 rfl (by decide) (.slice (some ⟨go, 0, none⟩) (streamB i va fs k).length cap) (streamB i va fs k).length (Lib.byteCells (streamB i va fs k)) (by simp [Act.eval]) HOB.out ⟨g3, 0, none⟩ (f.bytes num).length cap3 (Lib.byteCells (f.bytes num)) (by simp [Act.eval]) (by rw [byteCells_length]; simp) HNB.out (byteCells_one _) hbp (by have h1 := HSL.out; have h2 := HBL.out; have h3 := HFW.out; unfold maxLen; omega) (by have h1 := HSL.out; have h2 := HBL.out; have h3 := HFW.out; omega) HSZ.out _ rfl ?_; intro g5 cap5 w9 hown hgrow hat hlt)
                have HST := streamB_succ i va fs k f HFK.out
                rw [HNU.out] at HST
                have HKG : Kp [go] w8 w9 := Kp.grown hgrow (by intro k hk; simpa [Value.ownBlock] using hk.symm)
                have hgo := (HOW.out.lt go rfl).1
                go_roundw
                case rel =>
                  refine ⟨k + 1, by omega, by go_num, ?_, ?_⟩
                  · rw [HAS.out]; rfl
                  · refine ⟨g5, cap5, ?_, ?_, ?_, ?_⟩
                    · rw [HST, List.length_append]
                    · rw [HST, List.length_append, byteCells_append]
                      exact hown
                    · refine HKG.at HIN8.out (fun hm => ?_)
                      have e : w.heap.size = go := by simpa using hm
                      exact own_not HOB.out HIN8.out (by decide) go rfl (by simp [e])
                    · exact HKW.out.new HKG (by simpa using hgo)
                case measure => simp [intOf]; omega
    · have e : k = fs.length := by omega
      go_wp2_with fail
      go_ret
      rw [← e]
      exact ⟨go, cap, rfl, HOW.out, HKP.out⟩
end Go.Proofs.YtemcpcgcnjahjaaGreatDoor
