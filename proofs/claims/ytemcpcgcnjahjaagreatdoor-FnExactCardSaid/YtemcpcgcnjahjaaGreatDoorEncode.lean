/-
  impl.Encode.
-/
import Derived.Test.YtemcpcgcnjahjaaGreatDoorOwn
import Derived.Test.YtemcpcgcnjahjaaGreatDoorSpecJ
namespace Go.Proofs.YtemcpcgcnjahjaaGreatDoor
open Go.RowKit

theorem stream_pos (i : PInfo) (va : Bool) (fs : List PFrame) (k : Nat) : 0 < (streamB i va fs k).length := by
  induction k with
  | zero =>
    have h := i.bytes_length
    show 0 < i.bytes.length
    omega
  | succ k ih =>
    show 0 < (streamB i va fs k ++ _).length
    rw [List.length_append]; omega

/-- What Encode comes to. -/
def Encoded (bs : List UInt8) (w : World) (e : Ending) (w' : World) : Prop :=
  ∃ g cap, e = .returned (.tuple #[.slice (some ⟨g, 0, none⟩) bs.length cap, .int .i64 0]) ∧ w'.ownsRow w.heap.size 5 1 (.slice (some ⟨g, 0, none⟩) bs.length cap) bs.length (Lib.byteCells bs) ∧ Kp [] w w'

/-- Between the frames of Encode. -/
structure EncSt (i : PInfo) (va : Bool) (fs : List PFrame) (w : World) (E ST IN b d k : Nat) (wx : World) : Prop where
  enc : ∃ x1 x2 x3 : Int, EncAt E ST IN b d i.nch x1 x2 x3 (numV va fs k : Nat) wx
  dig : ∃ nx, nx < 64 ∧ Dig d nx wx
  buf : Buf w.heap.size b (streamB i va fs k) wx
  kp : Kp [] w wx

theorem EncSt.keep {i : PInfo} {va : Bool} {fs : List PFrame} {w : World} {E ST IN b d k : Nat} {wo wr : World} (h : EncSt i va fs w E ST IN b d k wo) (kp : Kp [] wo wr) : EncSt i va fs w E ST IN b d k wr := by
  obtain ⟨x1, x2, x3, he⟩ := h.enc
  exact ⟨⟨x1, x2, x3, he.fr (kp.fr (Nat.le_refl _) (by simp)) (by simp) (by simp) (by simp)⟩, Dig.kpT h.dig kp (OfTy.nil _ [1]) (by decide), h.buf.kp kp (by simp), h.kp.trans kp⟩

theorem Tryz.info78 : (Tryz.prog.info? 78).map (fun i => (i.zero, i.size, i.bytes)) = some (some (.pointer none), 1, 8) := by kernel_rfl

theorem SubSome.kpT {s : PSub} {a : Nat} {w w' : World} {L Ts : List Nat} (h : SubSome s a w) (k : Kp L w w') (hT : OfTy w L Ts) (hd : 129 ∉ Ts ∧ 133 ∉ Ts ∧ 135 ∉ Ts ∧ 21 ∉ Ts) : SubSome s a w' := by
  obtain ⟨R, P, g, cap, pcap, v4, v5, v6, hs⟩ := h
  obtain ⟨pc, hP, hp⟩ := hs.pars
  obtain ⟨sc, hG, hg⟩ := hs.smp
  exact ⟨R, P, g, cap, pcap, v4, v5, v6, k.at hs.sub (hT.not hs.sub hd.1), k.at hs.rice (hT.not hs.rice hd.2.1), ⟨pc, k.at hP (hT.not hP hd.2.2.1), hp⟩, ⟨sc, k.at hG (hT.not hG hd.2.2.2), hg⟩, hs.le⟩

/-- The cells of a frame for the package. -/
def PFrame.fcells (f : PFrame) (v : Value) : Array Value := #[.bool (!f.varies), .int .u16 f.size, .int .u32 f.rate, .int .u8 f.assign, .int .u8 f.bits, .int .u64 0, v, .nilIface, .pointer none, .nilIface, .nilIface]

/-- Between the channels of one frame. -/
structure XS (f : PFrame) (wo : World) (c : Nat) (v : Value) (ptrs : List Value) (wx : World) : Prop where
  hd : wx.heap[wo.heap.size + 1]? = some (.cells (f.fcells v) 77 (0, 0))
  own : wx.ownsRow wo.heap.size 78 1 v c ptrs
  subs : ∀ (d : Nat) (s : PSub), d < c → f.subs[d]? = some s → ∃ a, ptrs[d]? = some (.pointer (some ⟨a, 0, none⟩)) ∧ SubSome s a wx
  kp : Kp [] wo wx

/-- All channels of it. -/
theorem XS.frame {f : PFrame} {wo wx : World} {v : Value} {ptrs : List Value} (h : XS f wo f.subs.length v ptrs wx) (h1 : 1 ≤ f.subs.length) : ∃ Y ycap, v = .slice (some ⟨Y, 0, none⟩) f.subs.length ycap ∧ FrameAt f 0 (wo.heap.size + 1) Y ycap wx := by
  obtain ⟨Y, ycap, rfl, _, _⟩ := h.own.form (by omega)
  obtain ⟨_, cur, hg, hx⟩ := ownsRow_at h.own
  refine ⟨Y, ycap, rfl, h.hd, cur, hg, fun c s hc => ?_⟩
  obtain ⟨a, h2, h3⟩ := h.subs c s (List.getElem?_eq_some_iff.1 hc).1 hc
  exact ⟨a, hx _ _ h2, h3⟩

theorem XS.keep {f : PFrame} {wo : World} {c : Nat} {v : Value} {ptrs : List Value} {w w' : World} (h : XS f wo c v ptrs w) (k : Kp [] w w') : XS f wo c v ptrs w' := by
  refine ⟨k.at h.hd (by simp), ownsRow_kp h.own k (fun _ _ => by simp), fun d s hd hs => ?_, h.kp.trans k⟩
  obtain ⟨a, h1, h2⟩ := h.subs d s hd hs
  exact ⟨a, h1, h2.kpT k (OfTy.nil _ [1]) (by decide)⟩

theorem XS.push {f : PFrame} {wo Wz w5 : World} {c g5 cap5 a : Nat} {v : Value} {ptrs : List Value} {O : Obj} {s : PSub} (h : XS f wo c v ptrs Wz) (hs : f.subs[c]? = some s) (hsa : SubSome s a Wz) (hgrow : (Wz.alloc O).grownBy w5 v.ownBlock)
    (hown5 : w5.ownsRow wo.heap.size 78 1 (.slice (some ⟨g5, 0, none⟩) (c + 1) cap5) (c + 1) (ptrs ++ [.pointer (some ⟨a, 0, none⟩)])) :
    XS f wo (c + 1) (.slice (some ⟨g5, 0, none⟩) (c + 1) cap5) (ptrs ++ [.pointer (some ⟨a, 0, none⟩)]) (w5.setCell ⟨wo.heap.size + 1, 6, none⟩ (.slice (some ⟨g5, 0, none⟩) (c + 1) cap5)) ∧ w5.heap[wo.heap.size + 1]? = some (.cells (f.fcells v) 77 (0, 0)) := by
  obtain ⟨k1, ty1, hb⟩ := growKp (h.own.alloc O) hgrow
  have ty : OfTy Wz v.ownBlock.toList [78] := by
    intro j hj
    rcases h.own.2 with ⟨rfl, _⟩ | ⟨g, cap, cur, rfl, _, hg, _⟩
    · simp [Value.ownBlock] at hj
    · simp only [Value.ownBlock, Option.toList_some, List.mem_singleton] at hj
      subst hj
      exact ⟨_, _, _, hg, by simp⟩
  have k2 : Kp v.ownBlock.toList Wz w5 := ((Kp.alloc [] Wz O).mono (by simp)).trans k1
  have hd5 := k2.at h.hd (ty.not h.hd (by decide))
  have ks : Kp [wo.heap.size + 1] w5 (w5.setCell ⟨wo.heap.size + 1, 6, none⟩ (.slice (some ⟨g5, 0, none⟩) (c + 1) cap5)) := Kp.setCell _ _ _ (by simp)
  refine ⟨⟨?_, ?_, ?_, ?_⟩, hd5⟩
  · exact heap_set hd5
  · exact ownsRow_kp hown5 ks (own_not hown5 hd5 (by decide))
  · intro d s' hd hs'
    have hl := h.own.1
    rcases Nat.lt_or_ge d c with hlt | hge
    · obtain ⟨a', h1, h2⟩ := h.subs d s' hlt hs'
      refine ⟨a', ?_, (h2.kpT k2 ty (by decide)).kpT ks (one_ty hd5) (by decide)⟩
      rw [List.getElem?_append_left (List.getElem?_eq_some_iff.1 h1).1]
      exact h1
    · obtain rfl : d = c := by omega
      rw [hs] at hs'
      cases hs'
      refine ⟨a, ?_, (hsa.kpT k2 ty (by decide)).kpT ks (one_ty hd5) (by decide)⟩
      rw [List.getElem?_append_right (by omega), hl, Nat.mul_one, Nat.sub_self]
      rfl
  · exact (h.kp.new k2 (fun j hj => hb j hj)).new ks (by simp)

set_option maxRecDepth 100000 in
set_option maxHeartbeats 8000000 in
/-- impl.Encode. -/
theorem implEncode (i : PInfo) (va : Bool) (fs : List PFrame) (F fcap : Nat) (w : World) (hi : i.Ok) (hfs : FsOk i va fs) (hF : FramesAt F fs w) (hN : NCh w) :
    Calls Tryz.prog 6 #[i.v, .slice (some ⟨F, 0, none⟩) fs.length fcap] w (Encoded (streamB i va fs fs.length) w) := by
  have HI := Bx.mk hi; clear hi
  have HF := Bx.mk hfs; clear hfs
  have HD := Bx.mk hF; clear hF
  have HB0 : Bx (0 < w.heap.size) := ⟨by
    have h := hN 0 (by decide)
    have := World.block_lt_of_cell? _ _ h
    exact Nat.lt_of_le_of_lt (Nat.zero_le _) this⟩
  have HN := Bx.mk hN; clear hN
  have HSI : Bx (∀ wz, Calls Tryz.prog 10 #[i.v] wz (InfoMade i wz)) := ⟨fun wz => implInfo i wz HI.out⟩
  unfold PInfo.v at HSI ⊢
  have hfw := HF.out.few
  go_enter Tryz.func6, Tryz.ntmps6
  go_wp2_with fail
  refine (HSI.out _).mono ?_
  rintro e w1 ⟨IN, rfl, hIN, hin, hk1⟩
  have hb0 : Buf w.heap.size (w.heap.size + 1) [] ((w.alloc (.cells #[.int .i64 16, .int .i64 4096, .int .i64 0, .int .i64 0, .int .i64 i.rate, .int .i64 i.nch, .int .i64 i.bits, .int .u64 i.smp, .slice none 0 0] 28)).alloc (.cells #[.slice none 0 0, .int .i64 0, .int .i8 0] 56)) := by
    refine ⟨by omega, .slice none 0 0, 0, ?_, World.ownsRow_nil _ _ _ _, by simp [Value.ownBlock]⟩
    have h := heap_alloc_new (w.alloc (.cells #[.int .i64 16, .int .i64 4096, .int .i64 0, .int .i64 0, .int .i64 i.rate, .int .i64 i.nch, .int .i64 i.bits, .int .u64 i.smp, .slice none 0 0] 28)) (.cells #[.slice none 0 0, .int .i64 0, .int .i8 0] 56)
    rw [World.size_alloc] at h
    exact h
  have hk0 : Kp [] w w1 := ((Kp.alloc _ _ _).trans (Kp.alloc _ _ _)).trans hk1
  have hb1 : Buf w.heap.size (w.heap.size + 1) [] w1 := hb0.kp hk1 (by simp)
  have hIN2 : w.heap.size + 1 < IN := by
    simp only [World.size_alloc] at hIN
    omega
  have HB1 := Bx.mk hb1
  have HK1 := Bx.mk hk0
  have HIN := Bx.mk hin
  clear hb0 hk1 hk0 hb1 hin hIN HSI
  go_wp2_with fail
  refine (newEncoder i IN (w.heap.size + 1) w.heap.size w1 HI.out HK1.out.size HB1.out HIN.out (by omega)).mono ?_
  rintro e w2 ⟨E, ST, d, rfl, hE, hST, hd, hec, hsc, hic, hdg, hbf, hfr⟩
  have HK2 := Bx.mk (HK1.out.thenFr hfr (Nat.le_refl _))
  have HEC := Bx.mk hec
  have HSC := Bx.mk hsc
  have HIC := Bx.mk hic
  have HDG := Bx.mk hdg
  have HBF := Bx.mk hbf
  have hbE : E ≠ w.heap.size + 1 := by
    obtain ⟨c, hc⟩ := hbf.block
    exact ne_of_types hec hc (by decide)
  have hdE : d ≠ E := by
    obtain ⟨nx, _, cs, hcs, _⟩ := hdg
    exact ne_of_types hcs hec (by decide)
  have HSE : Bx (w.heap.size ≤ E ∧ w.heap.size ≤ ST ∧ w.heap.size ≤ d) := ⟨by have := HK1.out.size; omega⟩
  clear hec hsc hic hdg hbf hfr hE hST hd HK1 HB1 HIN
  go_wp2_with fail
  refine (encEnable HEC.out HSC.out HIC.out).mono ?_
  rintro e w3 ⟨rfl, hen, hke⟩
  have HST0 : Bx (EncSt i va fs w E ST IN (w.heap.size + 1) d 0 w3) := by
    refine ⟨⟨0, 0, 0, ?_⟩, ?_, ?_, ?_⟩
    · have e0 : numV va fs 0 = 0 := by cases va <;> rfl
      rw [e0]; exact hen
    · exact Dig.kpT HDG.out hke (one_ty HEC.out) (by decide)
    · refine HBF.out.kp hke fun j hj => ?_
      obtain rfl : j = E := by simpa using hj
      exact ⟨hbE, noRow_of HEC.out (by decide)⟩
    · exact HK2.out.new hke (by have := HSE.out.1; simpa using this)
  clear hen hke HEC HSC HIC HDG HBF HK2 hbE hdE
  go_wp2_with fail
  go_loopw [28] (fun j wx => ∃ k : Nat, k ≤ fs.length ∧ j = .int .i64 k ∧ EncSt i va fs w E ST IN (w.heap.size + 1) d k wx) (fun j _ => fs.length - (intOf j).toNat)
  case atStart => exact ⟨0, by omega, rfl, HST0.out⟩
  case round =>
    clear HST0
    obtain ⟨wo, rfl⟩ : ∃ wo : World, wo = wr := ⟨_, rfl⟩
    obtain ⟨k, hk, rfl, hst⟩ := hrel
    have HST := Bx.mk hst
    clear hst
    by_cases hkn : k < fs.length
    · have hfk : fs[k]? = some fs[k] := List.getElem?_eq_getElem hkn
      have hmem : fs[k] ∈ fs := List.getElem_mem hkn
      generalize fs[k] = f at hfk hmem
      have HFK := Bx.mk hfk
      have HFO := Bx.mk (HF.out.ok f hmem)
      have HFP := Bx.mk (HF.out.pars f hmem)
      have HVV := Bx.mk (HF.out.same f hmem)
      have HNC := Bx.mk (HF.out.nch f hmem)
      obtain ⟨Y, ycap, hsa, hcl⟩ := HD.out.getK hfk
      have hcl2 := hcl wo HST.out.kp
      have c0 := hcl2 0 (.bool f.varies) rfl
      have c1 := hcl2 1 (.int .i64 f.size) rfl
      have c2 := hcl2 2 (.int .i64 f.rate) rfl
      have c3 := hcl2 3 (.int .i64 f.assign) rfl
      have c4 := hcl2 4 (.int .i64 f.bits) rfl
      have c5 := hcl2 5 (.int .u64 0) rfl
      have c6 := hcl2 6 (.slice (some ⟨Y, 0, none⟩) f.subs.length ycap) rfl
      simp only [Nat.add_zero] at c0
      have HSA := Bx.mk hsa
      have hsz1 := HFO.out.size1
      have hsz2 := HFO.out.size2
      have has := HFO.out.assign
      have hfew := HFO.out.few
      have hrt : 0 ≤ f.rate ∧ f.rate ≤ 655350 := by
        have h := HFO.out.rate
        unfold RateOk at h
        omega
      have hbt : 8 ≤ f.bits ∧ f.bits ≤ 24 := by
        have h := HFO.out.bits
        unfold BpsOk at h
        omega
      clear hcl hcl2 hfk hmem hsa
      have HX0 : Bx (XS f wo 0 (.slice none 0 0) [] ((wo.alloc (.cells #[.bool f.varies, .int .i64 f.size, .int .i64 f.rate, .int .i64 f.assign, .int .i64 f.bits, .int .u64 0, .slice (some ⟨Y, 0, none⟩) f.subs.length ycap] 46)).alloc (.cells (f.fcells (.slice none 0 0)) 77))) := by
        refine ⟨?_, World.ownsRow_nil _ _ _ _, fun d s hd => absurd hd (by omega), (Kp.alloc _ _ _).trans (Kp.alloc _ _ _)⟩
        have h := heap_alloc_new (wo.alloc (.cells #[.bool f.varies, .int .i64 f.size, .int .i64 f.rate, .int .i64 f.assign, .int .i64 f.bits, .int .u64 0, .slice (some ⟨Y, 0, none⟩) f.subs.length ycap] 46)) (.cells (f.fcells (.slice none 0 0)) 77)
        rw [World.size_alloc] at h
        exact h
      simp only [PFrame.fcells] at HX0
      go_wp2_with fail
      clear c0 c1 c2 c3 c4 c5 c6
      go_loopw [53] (fun j wx => ∃ (c : Nat) (v : Value) (ptrs : List Value), c ≤ f.subs.length ∧ j = .int .i64 c ∧ XS f wo c v ptrs wx) (fun j _ => f.subs.length - (intOf j).toNat)
      case atStart => exact ⟨0, _, [], by omega, rfl, HX0.out⟩
      case round =>
        clear HX0
        obtain ⟨c, v, ptrs, hc, rfl, hx⟩ := hrel
        have HX := Bx.mk hx
        clear hx
        by_cases hcn : c < f.subs.length
        · have hsc : f.subs[c]? = some f.subs[c] := List.getElem?_eq_getElem hcn
          have hmem : f.subs[c] ∈ f.subs := List.getElem_mem hcn
          have HSO := Bx.mk (HFO.out.subs _ hmem)
          have HSP := Bx.mk (HFP.out _ hmem)
          obtain ⟨g, gcap, P, pcap, hgc, hgs, hcl⟩ := HSA.out.getK hsc
          have HKX := Bx.mk (HST.out.kp.trans HX.out.kp)
          have hcl2 := hcl wr HKX.out
          generalize f.subs[c] = s at hsc hmem HSO HSP hgc hgs hcl hcl2
          have b0 := hcl2 0 (.int .i64 s.kind) rfl
          have b1 := hcl2 1 (.int .i64 s.ord) rfl
          have b2 := hcl2 2 (.int .i64 0) rfl
          have b3 := hcl2 3 (.slice (some ⟨g, 0, none⟩) s.smp.length gcap) rfl
          have b4 := hcl2 4 (.slice none 0 0) rfl
          have b5 := hcl2 5 (.int .i64 0) rfl
          have b6 := hcl2 6 (.int .i64 0) rfl
          have b7 := hcl2 7 (.int .i64 s.parts) rfl
          have b8 := hcl2 8 (.slice (some ⟨P, 0, none⟩) s.pars.length pcap) rfl
          simp only [Nat.add_zero] at b0
          have HSC := Bx.mk hsc
          have HCN := Bx.mk hcn
          have hn0 := heap_alloc_new wr (.cells #[.int .i64 s.kind, .int .i64 s.ord, .int .i64 0, .slice (some ⟨g, 0, none⟩) s.smp.length gcap, .slice none 0 0, .int .i64 0, .int .i64 0, .int .i64 s.parts, .slice (some ⟨P, 0, none⟩) s.pars.length pcap] 52)
          have HX1 := Bx.mk (HX.out.keep (Kp.alloc [] wr (.cells #[.int .i64 s.kind, .int .i64 s.ord, .int .i64 0, .slice (some ⟨g, 0, none⟩) s.smp.length gcap, .slice none 0 0, .int .i64 0, .int .i64 0, .int .i64 s.parts, .slice (some ⟨P, 0, none⟩) s.pars.length pcap] 52)))
          have HG1 : Bx (GSub s g P (wr.alloc (.cells #[.int .i64 s.kind, .int .i64 s.ord, .int .i64 0, .slice (some ⟨g, 0, none⟩) s.smp.length gcap, .slice none 0 0, .int .i64 0, .int .i64 0, .int .i64 s.parts, .slice (some ⟨P, 0, none⟩) s.pars.length pcap] 52))) := ⟨(hgs.kp HKX.out (by simp) (by simp)).kp (Kp.alloc [] wr (.cells #[.int .i64 s.kind, .int .i64 s.ord, .int .i64 0, .slice (some ⟨g, 0, none⟩) s.smp.length gcap, .slice none 0 0, .int .i64 0, .int .i64 0, .int .i64 s.parts, .slice (some ⟨P, 0, none⟩) s.pars.length pcap] 52)) (by simp) (by simp)⟩
          clear hcl hcl2 hsc hmem hgs
          have xl0 := Lib.lt_of_heap HX.out.hd
          go_upto_block 3 with fail
          go_cut [] from 55 to 67 (fun wx => ∃ (v' : Value) (ptrs' : List Value), XS f wo (c + 1) v' ptrs' wx)
          case first =>
            clear HST HFK HFP HVV HNC HSA HKX HCN HX HFO HD HF HI HN HB0 HSE hsz1 hsz2 has hrt hbt hfw hIN2 hk hkn hc
            go_upto_region 13 with fail
            clear b0 b1 b2 b3 b4 b5 b6 b7 b8
            change Code.wp _ _ _ _ (wr.alloc (.cells #[.int .i64 s.kind, .int .i64 s.ord, .int .i64 0, .slice (some ⟨g, 0, none⟩) s.smp.length gcap, .slice none 0 0, .int .i64 0, .int .i64 0, .int .i64 s.parts, .slice (some ⟨P, 0, none⟩) s.pars.length pcap] 52))
            generalize wr.alloc (.cells #[.int .i64 s.kind, .int .i64 s.ord, .int .i64 0, .slice (some ⟨g, 0, none⟩) s.smp.length gcap, .slice none 0 0, .int .i64 0, .int .i64 0, .int .i64 s.parts, .slice (some ⟨P, 0, none⟩) s.pars.length pcap] 52) = W0 at hn0 HX1 HG1 ⊢
            have s0 := Lib.cell_of_heap hn0 0
            have s1 := Lib.cell_of_heap hn0 1
            have s2 := Lib.cell_of_heap hn0 2
            have s3 := Lib.cell_of_heap hn0 3
            have s4 := Lib.cell_of_heap hn0 4
            have s5 := Lib.cell_of_heap hn0 5
            have s6 := Lib.cell_of_heap hn0 6
            have s7 := Lib.cell_of_heap hn0 7
            have s8 := Lib.cell_of_heap hn0 8
            have x6 := Lib.cell_of_heap HX1.out.hd 6
            have xl := Lib.lt_of_heap HX1.out.hd
            simp only [PFrame.fcells, List.getElem?_toArray, List.getElem?_cons_zero, List.getElem?_cons_succ] at s0 s1 s2 s3 s4 s5 s6 s7 s8 x6
            clear hn0
            obtain ⟨i78, i78a, i78b, i78c, i78d⟩ := info_parts Tryz.info78
            go_region_law (first
              | (go_simp; go_at_call 12; refine (implSub s g gcap P pcap _ (HG1.out.kp (Kp.drew [] W0) (by simp) (by simp)) HSO.out HSP.out.1 HSP.out.2.1 HSP.out.2.2).mono ?_; rintro e wz ⟨a, rfl, ha, hs, hkz⟩; have HXZ := Bx.mk (HX1.out.keep ((Kp.drew [] W0).trans hkz)); have HSZ := Bx.mk hs; have x6z := Lib.cell_of_heap HXZ.out.hd 6; have xlz := Lib.lt_of_heap HXZ.out.hd; simp only [PFrame.fcells, List.getElem?_toArray, List.getElem?_cons_zero, List.getElem?_cons_succ] at x6z; have HOZ := Bx.mk (HXZ.out.own.alloc (.cells #[.pointer (some ⟨a, 0, none⟩)] 78)); have HLZ : Bx (wo.heap.size ≤ (wz.alloc (.cells #[.pointer (some ⟨a, 0, none⟩)] 78)).heap.size) := ⟨by simp only [World.size_alloc]; omega⟩; clear hs hkz ha)
              | (refine step_append_lies _ rfl (.tmp 61) (.tmp 64) 70 rfl wo.heap.size 78 i78 _ 1 8 Tryz.underlying70 i78a i78b i78c i78d rfl (by decide) v c ptrs (by simp [Act.eval]) HOZ.out ⟨wz.heap.size, 0, none⟩ 1 1 [.pointer (some ⟨a, 0, none⟩)] (by simp [Act.eval]) rfl (cell_one_new _ _ _) (by simp [Value.oneCell']) (by decide) (by unfold maxLen; omega) (by omega) HLZ.out _ rfl ?_; intro g5 cap5 w5 hown5 hgrow hat hlt; have HPU := Bx.mk (XS.push HXZ.out HSC.out HSZ.out hgrow hown5); have x6y := Lib.cell_of_heap HPU.out.2 6; have z6y := Lib.frozen_of_heap HPU.out.2 6; simp only [PFrame.fcells, List.getElem?_toArray, List.getElem?_cons_zero, List.getElem?_cons_succ] at x6y; clear hown5 hgrow hat hlt))
            all_goals
              go_wp2_with fail
              go_meet
              case rel => exact ⟨_, _, HPU.out.1⟩
          case rest =>
            obtain ⟨v', ptrs', hx⟩ := hcut
            have HXN := Bx.mk hx
            clear hx b0 b1 b2 b3 b4 b5 b6 b7 b8
            go_wp2_with fail
            go_roundw
            case rel => exact ⟨c + 1, v', ptrs', HCN.out, by go_num, HXN.out⟩
            case measure =>
              have := HCN.out
              simp [intOf]; omega
        · obtain rfl : c = f.subs.length := by omega
          obtain ⟨Yb, ybcap, rfl, hfa⟩ := HX.out.frame HFO.out.some
          have HFA := Bx.mk hfa
          have HSW := Bx.mk (HST.out.keep HX.out.kp)
          obtain ⟨x1, x2, x3, hea⟩ := HSW.out.enc
          rw [← HNC.out] at hea
          have HEA := Bx.mk hea
          have hnum := HF.out.num k hk
          have HBW : Bx (w.heap.size ≤ wo.heap.size ∧ w.heap.size ≤ wr.heap.size) := ⟨HST.out.kp.size, HSW.out.kp.size⟩
          have HSL := Bx.mk (stream_len HF.out k)
          have HNR : Bx (NCh wr) := ⟨HN.out.fr (HSW.out.kp.fr (B := w.heap.size) (Nat.le_refl _) (by simp)) HB0.out⟩
          clear hea hfa
          go_wp2_with fail
          refine (writeFrame f 0 (numV va fs k) (wo.heap.size + 1) Yb ybcap E ST IN (w.heap.size + 1) d w.heap.size x1 x2 x3 (streamB i va fs k) wr (by have := HSL.out; omega) HB0.out HBW.out.2 HSE.out.1 (by have := HBW.out.1; omega) HSE.out.2.2 HNR.out HFA.out HEA.out HSW.out.dig HSW.out.buf HFO.out (by omega)).mono ?_
          rintro e w9 ⟨rfl, y1, y2, y3, he9, hd9, hb9, hf9⟩
          have HST9 : Bx (EncSt i va fs w E ST IN (w.heap.size + 1) d (k + 1) w9) := by
            refine ⟨⟨y1, y2, y3, ?_⟩, hd9, ?_, HSW.out.kp.thenFr hf9 (Nat.le_refl _)⟩
            · rw [numV_succ va fs k f HFK.out HVV.out, ← HNC.out]
              exact he9
            · rw [streamB_succ i va fs k f HFK.out]
              exact hb9
          clear he9 hd9 hb9 hf9
          go_wp2_with fail
          go_roundw
          case rel => exact ⟨k + 1, by omega, by go_num, HST9.out⟩
          case measure => simp [intOf]; omega
    · obtain rfl : k = fs.length := by omega
      obtain ⟨x1, x2, x3, hea⟩ := HST.out.enc
      go_wp2_with fail
      refine (encClose hea).mono ?_
      rintro e w9 ⟨rfl, rfl⟩
      have HSA := Bx.mk (HST.out.keep (Kp.alloc [] w9 (.cells #[] 5)))
      have HON : Bx ((w9.alloc (.cells #[] 5)).ownsRow w.heap.size 5 1 (.slice (some ⟨w9.heap.size, 0, none⟩) 0 0) 0 []) := ⟨World.ownsRow_made (base := w.heap.size) (e := 5) (size := 1) w9 #[] 0 HST.out.kp.size (by decide) rfl⟩
      clear hea
      go_wp2_with fail
      refine (Tryz.Buffer_Bytes w.heap.size (w.heap.size + 1) (Lib.byteCells (streamB i va fs fs.length)) _ HSA.out.buf).mono ?_
      rintro e wb ⟨vb, rfl, hvb, q, rfl⟩
      have hbl : (Lib.byteCells (streamB i va fs fs.length)).length = (streamB i va fs fs.length).length := byteCells_length _
      rw [hbl] at hvb
      have hpos := stream_pos i va fs fs.length
      obtain ⟨gb, capb, rfl, hgb1, hgb2⟩ := hvb.form hpos
      have HNB : Bx (∀ (j : Nat) u, (Lib.byteCells (streamB i va fs fs.length))[j]? = some u → ((w9.alloc (.cells #[] 5)).drewN q).cell? ((⟨gb, 0, none⟩ : Addr).add j) = some u) := ⟨hvb.cells rfl⟩
      have HOQ : Bx (((w9.alloc (.cells #[] 5)).drewN q).ownsRow w.heap.size 5 1 (.slice (some ⟨w9.heap.size, 0, none⟩) 0 0) 0 []) := ⟨HON.out⟩
      have HKQ := Bx.mk (HSA.out.kp.trans (Kp.drewN [] (w9.alloc (.cells #[] 5)) q))
      have HBL := Bx.mk hbl
      have HSL := Bx.mk (stream_len HF.out fs.length)
      have HSE2 := Bx.mk HST.out.kp.size
      obtain ⟨i0, hi, hz0, hz1, hz2⟩ := info_parts Tryz.info5c
      clear hvb hbl
      generalize hbs : streamB i va fs fs.length = bs at hpos HNB HBL HSL ⊢
      have HBS := Bx.mk hbs
      clear hbs
      generalize (w9.alloc (.cells #[] 5)).drewN q = wb at HNB HOQ HKQ ⊢
      have HFW := Bx.mk hfw
      go_wp2_with (at_builtin; refine wpList_append_lies _ rfl (.tmp 80) (.tmp 81) 23 rfl w.heap.size 5 i0 (.int .u8 0) 1 1 Tryz.underlying23 hi hz0 hz1 hz2 rfl (by decide) (.slice (some ⟨w9.heap.size, 0, none⟩) 0 0) 0 [] (by simp [Act.eval]) HOQ.out ⟨gb, 0, none⟩ bs.length capb (Lib.byteCells bs) (by simp [Act.eval]) (by rw [HBL.out]; simp) HNB.out (byteCells_one _) hpos (by have h1 := HSL.out; have h3 := HFW.out; unfold maxLen; omega) (by have h1 := HSL.out; have h3 := HFW.out; omega) HKQ.out.size _ rfl ?_)
      intro g5 cap5 w5 hown hgrow hat hlt
      have HK5 := Bx.mk (HKQ.out.new (growKp HOQ.out hgrow).1 (growKp HOQ.out hgrow).2.2)
      have HOW := Bx.mk hown
      clear hown hgrow hat hlt
      go_wp2_with fail
      refine (codeNil _).mono ?_
      rintro e wf ⟨rfl, rfl⟩
      go_wp2_with fail
      go_ret2
      rw [Encoded, HBS.out]
      exact ⟨g5, cap5, rfl, HOW.out, HK5.out⟩
end Go.Proofs.YtemcpcgcnjahjaaGreatDoor
