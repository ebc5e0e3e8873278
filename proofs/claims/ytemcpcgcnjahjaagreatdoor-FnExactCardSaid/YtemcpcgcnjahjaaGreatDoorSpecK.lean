/-
  The law's own turn from what the encoder is given to what the reference is given.
-/
import Derived.Test.YtemcpcgcnjahjaaGreatDoorOwn
import Derived.Test.YtemcpcgcnjahjaaGreatDoorSpecJ
namespace Go.Proofs.YtemcpcgcnjahjaaGreatDoor
open Go.RowKit

theorem Tryz.info43 : (Tryz.prog.info? 43).map (fun i => (i.zero, i.size, i.bytes)) = some (some (.agg #[.bool false, .int .i64 0, .int .i64 0, .int .i64 0, .int .i64 0, .int .u64 0]), 6, 48) := by kernel_rfl
theorem Tryz.info85 : (Tryz.prog.info? 85).map (fun i => (i.zero, i.size, i.bytes)) = some (some (.slice none 0 0), 1, 24) := by kernel_rfl
theorem Tryz.info87 : (Tryz.prog.info? 87).map (fun i => (i.zero, i.size, i.bytes)) = some (some (.agg #[.int .i64 0, .int .i64 0, .int .i64 0, .slice none 0 0, .slice none 0 0]), 5, 72) := by kernel_rfl

set_option maxRecDepth 100000 in
set_option maxHeartbeats 8000000 in
/-- laws.exact. -/
theorem lawExact (i : PInfo) (va : Bool) (fs : List PFrame) (F fcap : Nat) (w : World) (hi : i.Ok) (hfs : FsOk i va fs) (hF : FramesAt F fs w) :
    Calls Tryz.prog 7 #[i.v, .slice (some ⟨F, 0, none⟩) fs.length fcap] w (NewBytes (streamB i va fs fs.length) w) := by
  have HI := Bx.mk hi; clear hi
  have HF := Bx.mk hfs; clear hfs
  have HD := Bx.mk hF; clear hF
  unfold PInfo.v
  generalize hO : (Obj.cells #[.int .i64 16, .int .i64 4096, .int .i64 0, .int .i64 0, .int .i64 i.rate, .int .i64 i.nch, .int .i64 i.bits, .int .u64 i.smp, .slice none 0 0] 28 (0, 0)) = O
  have hw0 : Bx ((((w.alloc O).alloc (.cells #[] 43)).alloc (.cells #[] 85)).heap[w.heap.size]? = some O ∧ Kp [] w (((w.alloc O).alloc (.cells #[] 43)).alloc (.cells #[] 85)) ∧
      HeadsOwn w.heap.size fs 0 (.slice (some ⟨w.heap.size + 1, 0, none⟩) 0 0) (((w.alloc O).alloc (.cells #[] 43)).alloc (.cells #[] 85)) ∧ AllOwn w.heap.size fs 0 (.slice (some ⟨w.heap.size + 1 + 1, 0, none⟩) 0 0) (((w.alloc O).alloc (.cells #[] 43)).alloc (.cells #[] 85))) := by
    refine ⟨heap_alloc (heap_alloc (heap_alloc_new _ _)), ((Kp.alloc _ _ _).trans (Kp.alloc _ _ _)).trans (Kp.alloc _ _ _), ?_, ?_⟩
    · have h := World.ownsRow_made (base := w.heap.size) (e := 43) (size := 6) (w.alloc O) #[] 0 (by simp) (by decide) rfl
      rw [World.size_alloc] at h
      exact ⟨_, _, rfl, h.alloc _⟩
    · have h := World.ownsRow_made (base := w.heap.size) (e := 85) (size := 1) ((w.alloc O).alloc (.cells #[] 43)) #[] 0 (by simp; omega) (by decide) rfl
      rw [World.size_alloc, World.size_alloc] at h
      exact ⟨_, _, [], rfl, h, fun j f hj => absurd hj (by omega)⟩
  subst hO
  have hfw := HF.out.few
  go_enter Tryz.func7, Tryz.ntmps7
  go_wp2_with fail
  go_loopw [5, 6, 22] (fun hv av j wx => ∃ k : Nat, k ≤ fs.length ∧ j = .int .i64 k ∧ HeadsOwn w.heap.size fs k hv wx ∧ AllOwn w.heap.size fs k av wx ∧ wx.heap[w.heap.size]? = some (.cells #[.int .i64 16, .int .i64 4096, .int .i64 0, .int .i64 0, .int .i64 i.rate, .int .i64 i.nch, .int .i64 i.bits, .int .u64 i.smp, .slice none 0 0] 28 (0, 0)) ∧ Kp [] w wx) (fun _ _ j _ => fs.length - (intOf j).toNat)
  case atStart => exact ⟨0, by omega, rfl, hw0.out.2.2.1, hw0.out.2.2.2, hw0.out.1, hw0.out.2.1⟩
  case round =>
    clear hw0
    obtain ⟨wo, rfl⟩ : ∃ wo : World, wo = wr := ⟨_, rfl⟩
    obtain ⟨k, hk, rfl, hho, hao, hin, hkp⟩ := hrel
    have HKP := Bx.mk hkp
    have HIN := Bx.mk hin
    have HAO := Bx.mk hao
    have HHO := Bx.mk hho
    clear hkp hin hao hho
    by_cases hkn : k < fs.length
    · have hfk : fs[k]? = some fs[k] := List.getElem?_eq_getElem hkn
      have hmem : fs[k] ∈ fs := List.getElem_mem hkn
      have htk : fs.take (k + 1) = fs.take k ++ [fs[k]] := List.take_succ_eq_append_getElem hkn
      generalize fs[k] = f at hfk hmem htk
      have HFK := Bx.mk hfk
      have HTK := Bx.mk htk
      have HFO := Bx.mk (HF.out.ok f hmem)
      have HFP := Bx.mk (HF.out.pars f hmem)
      obtain ⟨Y, ycap, hsa, hcl⟩ := HD.out.getK hfk
      have hcl2 := hcl wo HKP.out
      have c0 := hcl2 0 (.bool f.varies) rfl
      have c1 := hcl2 1 (.int .i64 f.size) rfl
      have c2 := hcl2 2 (.int .i64 f.rate) rfl
      have c3 := hcl2 3 (.int .i64 f.assign) rfl
      have c4 := hcl2 4 (.int .i64 f.bits) rfl
      have c5 := hcl2 5 (.int .u64 0) rfl
      have c6 := hcl2 6 (.slice (some ⟨Y, 0, none⟩) f.subs.length ycap) rfl
      simp only [Nat.add_zero] at c0
      have HSA := Bx.mk hsa
      clear hcl hcl2 hfk hmem htk hsa
      obtain ⟨gh, caph, rfl, hown⟩ := HHO.out
      obtain ⟨i43, i43a, i43b, i43c, i43d⟩ := info_parts Tryz.info43
      have HOA := Bx.mk ((hown.alloc (.cells #[.bool f.varies, .int .i64 f.size, .int .i64 f.rate, .int .i64 f.assign, .int .i64 f.bits, .int .u64 0, .slice (some ⟨Y, 0, none⟩) f.subs.length ycap] 46)).alloc (.cells (headCells f).toArray 43))
      have hnb := heap_alloc_new (wo.alloc (.cells #[.bool f.varies, .int .i64 f.size, .int .i64 f.rate, .int .i64 f.assign, .int .i64 f.bits, .int .u64 0, .slice (some ⟨Y, 0, none⟩) f.subs.length ycap] 46)) (.cells (headCells f).toArray 43)
      rw [World.size_alloc] at hnb
      have HNB := Bx.mk (World.news_of_block hnb)
      have HFB : Bx (((wo.alloc (.cells #[.bool f.varies, .int .i64 f.size, .int .i64 f.rate, .int .i64 f.assign, .int .i64 f.bits, .int .u64 0, .slice (some ⟨Y, 0, none⟩) f.subs.length ycap] 46)).alloc (.cells (headCells f).toArray 43)).heap[wo.heap.size]? = some (.cells #[.bool f.varies, .int .i64 f.size, .int .i64 f.rate, .int .i64 f.assign, .int .i64 f.bits, .int .u64 0, .slice (some ⟨Y, 0, none⟩) f.subs.length ycap] 46 (0, 0))) := ⟨heap_alloc (heap_alloc_new _ _)⟩
      have HKA : Bx (Kp [] wo ((wo.alloc (.cells #[.bool f.varies, .int .i64 f.size, .int .i64 f.rate, .int .i64 f.assign, .int .i64 f.bits, .int .u64 0, .slice (some ⟨Y, 0, none⟩) f.subs.length ycap] 46)).alloc (.cells (headCells f).toArray 43))) := ⟨(Kp.alloc _ _ _).trans (Kp.alloc _ _ _)⟩
      have HSZ : Bx (w.heap.size ≤ ((wo.alloc (.cells #[.bool f.varies, .int .i64 f.size, .int .i64 f.rate, .int .i64 f.assign, .int .i64 f.bits, .int .u64 0, .slice (some ⟨Y, 0, none⟩) f.subs.length ycap] 46)).alloc (.cells (headCells f).toArray 43)).heap.size) := ⟨Nat.le_trans HKP.out.size HKA.out.size⟩
      clear hown hnb
      simp only [headCells] at HOA HNB HFB HKA HSZ
      go_wp2_with (at_builtin; refine wpList_append_lies _ rfl (.tmp 26) (.tmp 38) 38 rfl w.heap.size 43 i43 _ 6 48 Tryz.underlying38 i43a i43b i43c i43d rfl (by decide) (.slice (some ⟨gh, 0, none⟩) k caph) k ((fs.take k).flatMap headCells) (by simp [Act.eval]) HOA.out ⟨wo.heap.size + 1, 0, none⟩ 1 1 (headCells f) (by simp [Act.eval]) rfl HNB.out (by simp [headCells, Value.oneCell']) (by decide) (by unfold maxLen; omega) (by omega) HSZ.out _ rfl ?_)
      intro g3 cap3 w1 hown hgrow hat hlt
      clear c0 c1 c2 c3 c4 c5 c6
      have HL1 := Bx.mk (growKp HOA.out hgrow)
      have HKO1 := Bx.mk ((HKA.out.mono (S' := (Value.slice (some ⟨gh, 0, none⟩) k caph).ownBlock.toList) (by simp)).trans HL1.out.1)
      have hnw : ∀ j ∈ (Value.slice (some ⟨gh, 0, none⟩) k caph).ownBlock.toList, w.heap.size ≤ j := HL1.out.2.2
      have HT1 : Bx (OfTy wo (Value.slice (some ⟨gh, 0, none⟩) k caph).ownBlock.toList [43]) := by
        obtain ⟨_, cur, hg, _⟩ := ownsRow_at (show wo.ownsRow w.heap.size 43 6 (.slice (some ⟨gh, 0, none⟩) k caph) k ((fs.take k).flatMap headCells) from by
          obtain ⟨g', c', e, h⟩ := HHO.out
          exact h)
        refine ⟨fun j hj => ?_⟩
        simp only [Value.ownBlock, Option.toList_some, List.mem_singleton] at hj
        subst hj
        exact ⟨_, _, _, hg, by simp⟩
      have HKW1 : Bx (Kp [] w w1) := ⟨HKP.out.new HKO1.out hnw⟩
      have HIN1 := Bx.mk (HKO1.out.at HIN.out (HT1.out.not HIN.out (by decide)))
      have HFB1 := HL1.out.1.at HFB.out (HL1.out.2.1.not HFB.out (by decide))
      have HAO1 := Bx.mk (HAO.out.kpT HKO1.out HT1.out (by decide))
      have HHO1 : Bx (HeadsOwn w.heap.size fs (k + 1) (.slice (some ⟨g3, 0, none⟩) (k + 1) cap3) w1) := by
        refine ⟨g3, cap3, rfl, ?_⟩
        rw [HTK.out, List.flatMap_append, List.flatMap_singleton]
        exact hown
      have c6 := Lib.cell_of_heap HFB1 6
      simp only [List.getElem?_toArray, List.getElem?_cons_zero, List.getElem?_cons_succ] at c6
      have hwl := Lib.lt_of_heap HFB1
      have HR0 : Bx (RowOwn w1.heap.size f.subs 0 (.slice (some ⟨w1.heap.size, 0, none⟩) 0 0) (w1.alloc (.cells #[] 87))) := by
        have h := World.ownsRow_made (base := w1.heap.size) (e := 87) (size := 5) w1 #[] 0 (by simp) (by decide) rfl
        exact ⟨_, _, [], rfl, h, fun j f hj => absurd hj (by omega)⟩
      have HKR := Bx.mk (Kp.alloc [] w1 (.cells #[] 87))
      have hs8 := HFO.out.few
      clear hown hgrow hat hlt HFB1 HL1 HKO1 HT1 HOA HNB HFB HKA HSZ hnw HHO HAO HIN HKP i43a i43b i43c i43d
      go_wp2_with fail
      go_loopw [9, 44] (fun rv j wx => ∃ c : Nat, c ≤ f.subs.length ∧ j = .int .i64 c ∧ RowOwn w1.heap.size f.subs c rv wx ∧ Kp [] w1 wx) (fun _ j _ => f.subs.length - (intOf j).toNat)
      case atStart => exact ⟨0, by omega, rfl, HR0.out, HKR.out⟩
      case round =>
        clear HR0 HKR c6
        obtain ⟨wi, rfl⟩ : ∃ wi : World, wi = wr := ⟨_, rfl⟩
        obtain ⟨c, hc, rfl, hro, hkp⟩ := hrel
        have HRO := Bx.mk hro
        have HKI := Bx.mk hkp
        clear hro hkp
        by_cases hcn : c < f.subs.length
        · have hsc : f.subs[c]? = some f.subs[c] := List.getElem?_eq_getElem hcn
          have hmem : f.subs[c] ∈ f.subs := List.getElem_mem hcn
          have HSO := Bx.mk (HFO.out.subs _ hmem)
          have hsp := HFP.out _ hmem
          obtain ⟨g, gcap, P, pcap, hgc, hgs, hcl⟩ := HSA.out.getK hsc
          have hcl2 := hcl wi (HKW1.out.trans HKI.out)
          generalize f.subs[c] = s at hsc hmem HSO hsp hgc hgs hcl hcl2
          have b0 := hcl2 0 (.int .i64 s.kind) rfl
          have b1 := hcl2 1 (.int .i64 s.ord) rfl
          have b2 := hcl2 2 (.int .i64 0) rfl
          have b3 := hcl2 3 (.slice (some ⟨g, 0, none⟩) s.smp.length gcap) rfl
          have b4 := hcl2 4 (.slice none 0 0) rfl
          have b5 := hcl2 5 (.int .i64 0) rfl
          have b6 := hcl2 6 (.int .i64 0) rfl
          have b7 := hcl2 7 (.int .i64 s.parts) rfl
          have b8 := hcl2 8 (.slice (some ⟨P, 0, none⟩) s.pars.length pcap) rfl
          simp only [Nat.add_zero] at b0
          have HSC := Bx.mk hsc
          have HGS := Bx.mk hgs
          have HCN := Bx.mk hcn
          have hp1 := hsp.1
          have hp4 := hsp.2.1
          have hsm1 := HSO.out.some
          have hsm2 := HSO.out.few
          clear hcl hcl2 hsc hmem hgs hsp
          go_wp2_with fail
          clear b0 b1 b2 b3 b4 b5 b6 b7 b8
          obtain ⟨i0, hi, hz0, hz1, hz2⟩ := info_parts Tryz.info3
          have HGH0 : Bx (GH wi (.cells #[.int .i64 s.kind, .int .i64 s.ord, .int .i64 0, .slice (some ⟨g, 0, none⟩) s.smp.length gcap, .slice none 0 0, .int .i64 0, .int .i64 0, .int .i64 s.parts, .slice (some ⟨P, 0, none⟩) s.pars.length pcap] 52) #[.int .i64 s.kind, .int .i64 s.ord, .int .i64 s.parts, .slice none 0 0, .slice none 0 0] ((wi.alloc (.cells #[.int .i64 s.kind, .int .i64 s.ord, .int .i64 0, .slice (some ⟨g, 0, none⟩) s.smp.length gcap, .slice none 0 0, .int .i64 0, .int .i64 0, .int .i64 s.parts, .slice (some ⟨P, 0, none⟩) s.pars.length pcap] 52)).alloc (.cells #[.int .i64 s.kind, .int .i64 s.ord, .int .i64 s.parts, .slice none 0 0, .slice none 0 0] 87))) := by
            refine ⟨heap_alloc (heap_alloc_new _ _), ?_, (Kp.alloc _ _ _).trans (Kp.alloc _ _ _)⟩
            have h := heap_alloc_new (wi.alloc (.cells #[.int .i64 s.kind, .int .i64 s.ord, .int .i64 0, .slice (some ⟨g, 0, none⟩) s.smp.length gcap, .slice none 0 0, .int .i64 0, .int .i64 0, .int .i64 s.parts, .slice (some ⟨P, 0, none⟩) s.pars.length pcap] 52)) (.cells #[.int .i64 s.kind, .int .i64 s.ord, .int .i64 s.parts, .slice none 0 0, .slice none 0 0] 87)
            rw [World.size_alloc] at h
            exact h
          go_loopw [58] (fun j wx => ∃ (t : Nat) (v3 : Value), t ≤ s.pars.length ∧ j = .int .i64 t ∧ GH wi (.cells #[.int .i64 s.kind, .int .i64 s.ord, .int .i64 0, .slice (some ⟨g, 0, none⟩) s.smp.length gcap, .slice none 0 0, .int .i64 0, .int .i64 0, .int .i64 s.parts, .slice (some ⟨P, 0, none⟩) s.pars.length pcap] 52) #[.int .i64 s.kind, .int .i64 s.ord, .int .i64 s.parts, v3, .slice none 0 0] wx ∧ wx.ownsRow (wi.heap.size + 1 + 1) 3 1 v3 t (intsV ((s.pars.map Int.ofNat).take t))) (fun j _ => s.pars.length - (intOf j).toNat)
          case atStart => exact ⟨0, .slice none 0 0, by omega, rfl, HGH0.out, by simpa [intsV] using World.ownsRow_nil _ _ _ _⟩
          case round =>
            clear HGH0
            obtain ⟨t, v3, ht, rfl, hgh, hown⟩ := hrel
            have HGH := Bx.mk hgh
            have HOW := Bx.mk hown
            clear hgh hown
            have g3 := Lib.cell_of_heap HGH.out.giv 3
            have f3 := Lib.frozen_of_heap HGH.out.giv 3
            have gl := Lib.lt_of_heap HGH.out.giv
            simp only [List.getElem?_toArray, List.getElem?_cons_zero, List.getElem?_cons_succ] at g3
            by_cases htn : t < s.pars.length
            · have hcell := (HGS.out.pars.kp (HKW1.out.trans (HKI.out.trans HGH.out.kp)) (by simp)).get t (by simpa using htn)
              have HT : Bx (intsV ((s.pars.map Int.ofNat).take (t + 1)) = intsV ((s.pars.map Int.ofNat).take t) ++ [.int .i64 ((s.pars.map Int.ofNat).getD t 0)]) := by
                constructor
                rw [List.take_succ_eq_append_getElem (by simpa using htn), intsV_snoc, List.getD_eq_getElem?_getD, List.getElem?_eq_getElem (by simpa using htn)]
                rfl
              generalize (s.pars.map Int.ofNat).getD t 0 = x at hcell HT
              have HOA := Bx.mk (HOW.out.alloc (.cells #[.int .i64 x] 3))
              have HSZ : Bx (wi.heap.size + 1 + 1 ≤ (wr.alloc (.cells #[.int .i64 x] 3)).heap.size) := by
                constructor
                simp only [World.size_alloc]; omega
              have HTN := Bx.mk htn
              go_wp2_with (at_builtin; refine wpList_append_lies _ rfl (.tmp 63) (.tmp 65) 48 rfl (wi.heap.size + 1 + 1) 3 i0 (.int .i64 0) 1 8 Tryz.underlying48 hi hz0 hz1 hz2 rfl (by decide) v3 t _ (by simp [Act.eval]) HOA.out ⟨wr.heap.size, 0, none⟩ 1 1 [.int .i64 x] (by simp [Act.eval]) rfl (cell_one_new _ _ _) (by simp [Value.oneCell']) (by decide) (by unfold maxLen; omega) (by omega) HSZ.out _ rfl ?_)
              intro g4 cap4 w2 hown1 hgrow hat hlt
              rw [← HT.out] at hown1
              have HPU := Bx.mk (GH.push (i := 3) HGH.out HOW.out (by omega) hgrow hown1)
              have g3' := Lib.cell_of_heap HPU.out.2.2.2 3
              have f3' := Lib.frozen_of_heap HPU.out.2.2.2 3
              simp only [List.getElem?_toArray, List.getElem?_cons_zero, List.getElem?_cons_succ] at g3'
              clear g3 f3 gl hcell hown1 hgrow hat hlt HOA HSZ
              go_wp2_with fail
              go_roundw
              case rel => exact ⟨t + 1, _, HTN.out, by go_num, HPU.out.1, HPU.out.2.1⟩
              case measure =>
                have := HTN.out
                simp [intOf]; omega
            · obtain rfl : t = s.pars.length := by omega
              clear g3 f3 gl
              rw [List.take_of_length_le (by simp)] at HOW
              obtain ⟨P2, pcap2, rfl, hP2, hP2l⟩ := HOW.out.form (by omega)
              have HPI := Bx.mk (own_ints (xs := s.pars.map Int.ofNat) HOW.out)
              clear HOW
              obtain ⟨wm, rfl⟩ : ∃ wm : World, wm = wr := ⟨_, rfl⟩
              have s3 := Lib.cell_of_heap HGH.out.sub 3
              simp only [List.getElem?_toArray, List.getElem?_cons_zero, List.getElem?_cons_succ] at s3
              have hml := Lib.lt_of_heap HGH.out.giv
              go_wp2_with fail
              clear s3
              go_loopw [72] (fun j wx => ∃ (t : Nat) (v4 : Value), t ≤ s.smp.length ∧ j = .int .i64 t ∧ GH wi (.cells #[.int .i64 s.kind, .int .i64 s.ord, .int .i64 0, .slice (some ⟨g, 0, none⟩) s.smp.length gcap, .slice none 0 0, .int .i64 0, .int .i64 0, .int .i64 s.parts, .slice (some ⟨P, 0, none⟩) s.pars.length pcap] 52) #[.int .i64 s.kind, .int .i64 s.ord, .int .i64 s.parts, .slice (some ⟨P2, 0, none⟩) s.pars.length pcap2, v4] wx ∧ wx.ownsRow wm.heap.size 3 1 v4 t (intsV (s.smp.take t)) ∧ IntAt P2 (s.pars.map Int.ofNat) wx ∧ wm.heap.size ≤ wx.heap.size) (fun j _ => s.smp.length - (intOf j).toNat)
              case atStart => exact ⟨0, .slice none 0 0, by omega, rfl, HGH.out, by simpa [intsV] using World.ownsRow_nil _ _ _ _, HPI.out, Nat.le_refl _⟩
              case round =>
                clear HGH HPI
                obtain ⟨t, v4, ht, rfl, hgh, hown, hpi, hwm⟩ := hrel
                have HGH := Bx.mk hgh
                have HOW := Bx.mk hown
                have HPI := Bx.mk hpi
                clear hgh hown hpi
                have q4 := Lib.cell_of_heap HGH.out.giv 4
                have f4 := Lib.frozen_of_heap HGH.out.giv 4
                simp only [List.getElem?_toArray, List.getElem?_cons_zero, List.getElem?_cons_succ] at q4
                by_cases htn : t < s.smp.length
                · have hcell := (HGS.out.smp.kp (HKW1.out.trans (HKI.out.trans HGH.out.kp)) (by simp)).get t htn
                  have HT : Bx (intsV (s.smp.take (t + 1)) = intsV (s.smp.take t) ++ [.int .i64 (s.smp.getD t 0)]) := by
                    constructor
                    rw [List.take_succ_eq_append_getElem htn, intsV_snoc, List.getD_eq_getElem?_getD, List.getElem?_eq_getElem htn]
                    rfl
                  have hmid := HSO.out.mid.get t
                  generalize s.smp.getD t 0 = x at hcell HT hmid
                  have HOA := Bx.mk (HOW.out.alloc (.cells #[.int .i64 x] 3))
                  have HSZ : Bx (wm.heap.size ≤ (wr.alloc (.cells #[.int .i64 x] 3)).heap.size) := by
                    constructor
                    simp only [World.size_alloc]; omega
                  have HTN := Bx.mk htn
                  go_wp2_with (at_builtin; refine wpList_append_lies _ rfl (.tmp 77) (.tmp 80) 48 rfl wm.heap.size 3 i0 (.int .i64 0) 1 8 Tryz.underlying48 hi hz0 hz1 hz2 rfl (by decide) v4 t _ (by simp [Act.eval]) HOA.out ⟨wr.heap.size, 0, none⟩ 1 1 [.int .i64 x] (by simp [Act.eval]) rfl (cell_one_new _ _ _) (by simp [Value.oneCell']) (by decide) (by unfold maxLen; omega) (by omega) HSZ.out _ rfl ?_)
                  intro g4 cap4 w2 hown1 hgrow hat hlt
                  rw [← HT.out] at hown1
                  have HPU := Bx.mk (GH.push (i := 4) HGH.out HOW.out (by omega) hgrow hown1)
                  have HBL := Bx.mk (growKp HOA.out hgrow).2.2
                  have q4' := Lib.cell_of_heap HPU.out.2.2.2 4
                  have f4' := Lib.frozen_of_heap HPU.out.2.2.2 4
                  simp only [List.getElem?_toArray, List.getElem?_cons_zero, List.getElem?_cons_succ] at q4'
                  have HPI2 : Bx (IntAt P2 (s.pars.map Int.ofNat) (w2.setCell ⟨wi.heap.size + 1, 4, none⟩ (.slice (some ⟨g4, 0, none⟩) (t + 1) cap4))) := by
                    refine ⟨HPI.out.kp HPU.out.2.2.1 (fun hm => ?_)⟩
                    rcases List.mem_cons.1 hm with h | h
                    · omega
                    · have := HBL.out _ h
                      omega
                  have HWM2 : Bx (wm.heap.size ≤ (w2.setCell ⟨wi.heap.size + 1, 4, none⟩ (.slice (some ⟨g4, 0, none⟩) (t + 1) cap4)).heap.size) := ⟨Nat.le_trans hwm HPU.out.2.2.1.size⟩
                  clear q4 f4 hcell hown1 hgrow hat hlt HOA HSZ HPI HBL
                  go_wp2_with fail
                  go_roundw
                  case rel => exact ⟨t + 1, _, HTN.out, by go_num, HPU.out.1, HPU.out.2.1, HPI2.out, HWM2.out⟩
                  case measure =>
                    have := HTN.out
                    simp [intOf]; omega
                · obtain rfl : t = s.smp.length := by omega
                  rw [List.take_length] at HOW
                  obtain ⟨g2, gcap2, rfl, hg2, hg2l⟩ := HOW.out.form (by omega)
                  have HGI := Bx.mk (own_ints HOW.out)
                  have HGC := Bx.mk (ownsRow_at HOW.out).1
                  have q0 := Lib.cell_of_heap HGH.out.giv 0
                  have q1 := Lib.cell_of_heap HGH.out.giv 1
                  have q2 := Lib.cell_of_heap HGH.out.giv 2
                  have q3 := Lib.cell_of_heap HGH.out.giv 3
                  simp only [List.getElem?_toArray, List.getElem?_cons_zero, List.getElem?_cons_succ] at q0 q1 q2 q3
                  clear HOW f4
                  obtain ⟨gr, capr, cells, rfl, hown, hcl⟩ := (HRO.out.kp HGH.out.kp)
                  obtain ⟨i87, i87a, i87b, i87c, i87d⟩ := info_parts Tryz.info87
                  have HOA := Bx.mk (hown.alloc (.cells (s.sc P2 pcap2 g2 gcap2) 87))
                  have HNB := Bx.mk (World.news_of_block (heap_alloc_new wr (.cells (s.sc P2 pcap2 g2 gcap2) 87)))
                  have HSZ : Bx (w1.heap.size ≤ (wr.alloc (.cells (s.sc P2 pcap2 g2 gcap2) 87)).heap.size) := by
                    have h1 := HKI.out.size
                    have h2 := HGH.out.kp.size
                    constructor
                    simp only [World.size_alloc]; omega
                  have HOW := Bx.mk hown
                  have HCL := Bx.mk hcl
                  clear hown hcl
                  simp only [PSub.sc] at HOA HNB HSZ
                  go_wp2_with (at_builtin; refine wpList_append_lies _ rfl (.tmp 84) (.tmp 86) 85 rfl w1.heap.size 87 i87 _ 5 72 Tryz.underlying85 i87a i87b i87c i87d rfl (by decide) (.slice (some ⟨gr, 0, none⟩) c capr) c cells (by simp [Act.eval]) HOA.out ⟨wr.heap.size, 0, none⟩ 1 1 (s.sc P2 pcap2 g2 gcap2).toList (by simp [Act.eval]) rfl HNB.out (by simp [PSub.sc, Value.oneCell']) (by decide) (by unfold maxLen; omega) (by omega) HSZ.out _ rfl ?_)
                  intro g5 cap5 w3 hown3 hgrow hat hlt
                  have HPU := Bx.mk (RowOwn.push HOW.out HCL.out HSC.out HGC.out HGI.out HPI.out hgrow hown3)
                  have HK3 := Bx.mk ((HKI.out.trans HGH.out.kp).new HPU.out.2.1 (by have := HPU.out.2.2; simpa using this))
                  clear hown3 hgrow hat hlt q0 q1 q2 q3 q4
                  go_wp2_with fail
                  go_roundw
                  case rel => exact ⟨c + 1, HCN.out, by go_num, HPU.out.1, HK3.out⟩
                  case measure =>
                    have := HCN.out
                    simp [intOf]; omega
        · obtain rfl : c = f.subs.length := by omega
          obtain ⟨a, acap, rfl, hra⟩ := HRO.out.at
          have HRA := Bx.mk hra
          have HAO2 := Bx.mk (HAO1.out.kpT HKI.out (OfTy.nil _ [1]) (by decide))
          have HHO2 := Bx.mk (HHO1.out.kpT HKI.out (OfTy.nil _ [1]) (by decide))
          have HIN2 := Bx.mk (HKI.out.at HIN1.out (by simp))
          have HKW2 := Bx.mk (HKW1.out.trans HKI.out)
          clear hra
          obtain ⟨ga, capa, rows, rfl, hown, hcl⟩ := HAO2.out
          obtain ⟨i85, i85a, i85b, i85c, i85d⟩ := info_parts Tryz.info85
          have HOA := Bx.mk (hown.alloc (.cells #[.slice (some ⟨a, 0, none⟩) f.subs.length acap] 85))
          have HSZ : Bx (w.heap.size ≤ (wi.alloc (.cells #[.slice (some ⟨a, 0, none⟩) f.subs.length acap] 85)).heap.size) := by
            have h1 := HKW2.out.size
            constructor
            simp only [World.size_alloc]; omega
          have HOW := Bx.mk hown
          have HCL := Bx.mk hcl
          clear hown hcl
          go_wp2_with (at_builtin; refine wpList_append_lies _ rfl (.tmp 89) (.tmp 91) 84 rfl w.heap.size 85 i85 _ 1 24 Tryz.underlying84 i85a i85b i85c i85d rfl (by decide) (.slice (some ⟨ga, 0, none⟩) k capa) k rows (by simp [Act.eval]) HOA.out ⟨wi.heap.size, 0, none⟩ 1 1 [.slice (some ⟨a, 0, none⟩) f.subs.length acap] (by simp [Act.eval]) rfl (cell_one_new _ _ _) (by simp [Value.oneCell']) (by decide) (by unfold maxLen; omega) (by omega) HSZ.out _ rfl ?_)
          intro g5 cap5 w3 hown3 hgrow hat hlt
          have HPU := Bx.mk (AllOwn.push HOW.out HCL.out HFK.out HRA.out hgrow hown3)
          have HK3 := Bx.mk (HKW2.out.new HPU.out.2.1 (by have := HPU.out.2.2.1; simpa using this))
          have HHO3 := Bx.mk (HHO2.out.kpT HPU.out.2.1 HPU.out.2.2.2 (by decide))
          have HIN3 := Bx.mk (HPU.out.2.1.at HIN2.out (HPU.out.2.2.2.not HIN2.out (by decide)))
          clear hown3 hgrow hat hlt
          go_wp2_with fail
          go_roundw
          case rel => exact ⟨k + 1, by omega, by go_num, HHO3.out, HPU.out.1, HIN3.out, HK3.out⟩
          case measure => simp [intOf]; omega
    · obtain rfl : k = fs.length := by omega
      obtain ⟨hb, hcap, rfl, hha⟩ := HHO.out.at
      obtain ⟨A, acap, rfl, haa⟩ := HAO.out.at
      have HHA := Bx.mk hha
      have HAA := Bx.mk haa
      have d0 := Lib.cell_of_heap HIN.out 0
      have d1 := Lib.cell_of_heap HIN.out 1
      have d4 := Lib.cell_of_heap HIN.out 4
      have d5 := Lib.cell_of_heap HIN.out 5
      have d6 := Lib.cell_of_heap HIN.out 6
      have d7 := Lib.cell_of_heap HIN.out 7
      simp only [List.getElem?_toArray, List.getElem?_cons_zero, List.getElem?_cons_succ] at d0 d1 d4 d5 d6 d7
      clear hha haa
      have HKN := Bx.mk (Kp.alloc [] wo (.cells #[.int .i64 16, .int .i64 4096, .int .i64 0, .int .i64 0, .int .i64 i.rate, .int .i64 i.nch, .int .i64 i.bits, .int .u64 i.smp, .slice none 0 0] 37))
      have HSE : Bx (∀ wz, HeadsAt hb fs wz → AllAt A fs wz → Calls Tryz.prog 17 #[i.v, .slice (some ⟨hb, 0, none⟩) fs.length hcap, .slice (some ⟨A, 0, none⟩) fs.length acap] wz (NewBytes (streamB i va fs fs.length) wz)) := ⟨fun wz h1 h2 => specExact i va fs hb hcap A acap wz HI.out HF.out h1 h2⟩
      unfold PInfo.v at HSE
      go_wp2_with fail
      refine (HSE.out _ (HHA.out.kp HKN.out) (HAA.out.kp HKN.out)).mono ?_
      rintro e w9 ⟨g9, cap9, rfl, hown, hk9⟩
      have HOW := Bx.mk hown
      have HK9 := Bx.mk (HKP.out.trans (HKN.out.trans hk9))
      clear hown hk9 d0 d1 d4 d5 d6 d7
      go_wp2_with fail
      go_ret
      exact ⟨g9, cap9, rfl, ownsRow_base HOW.out (by have := HKP.out.size; simp only [World.size_alloc]; omega), HK9.out⟩
end Go.Proofs.YtemcpcgcnjahjaaGreatDoor
