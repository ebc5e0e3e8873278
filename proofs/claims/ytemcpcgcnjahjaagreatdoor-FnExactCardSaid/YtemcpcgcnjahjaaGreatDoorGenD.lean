/-
  The reference's frame of channels as they stand: some bytes.
-/
import Derived.Test.YtemcpcgcnjahjaaGreatDoorGenC
namespace Go.Proofs.YtemcpcgcnjahjaaGreatDoor
open Go.RowKit

/-- A channel of so many samples in block g. -/
def ChanAt (n : Nat) (g : Nat) (w : World) : Prop := ∃ xs : List Int, xs.length = n ∧ (∀ x ∈ xs, -16777216 ≤ x ∧ x ≤ 16777216) ∧ IntAt g xs w
/-- Channels of so many samples. -/
def ChansAt (c n a : Nat) (w : World) : Prop := ∃ sc : Array Value, w.heap[a]? = some (.cells sc 48 (0, 0)) ∧ ∀ j, j < c → ∃ g cap, sc[j]? = some (.slice (some ⟨g, 0, none⟩) n cap) ∧ ChanAt n g w
theorem ChanAt.kp {n g : Nat} {w w' : World} (h : ChanAt n g w) (k : Kp [] w w') : ChanAt n g w' := by
  obtain ⟨xs, h1, h2, h3⟩ := h
  exact ⟨xs, h1, h2, h3.kp k (by simp)⟩
theorem ChansAt.getK {c n a : Nat} {w : World} (h : ChansAt c n a w) {j : Nat} (hj : j < c) : ∃ g cap, (∀ w', Kp [] w w' → w'.cell? ⟨a, j, none⟩ = some (.slice (some ⟨g, 0, none⟩) n cap)) ∧ ChanAt n g w := by
  obtain ⟨sc, h1, h2⟩ := h
  obtain ⟨g, cap, h3, h4⟩ := h2 j hj
  exact ⟨g, cap, fun w' kp => (Lib.cell_of_heap (kp.at h1 (by simp)) _).trans h3, h4⟩

/-- Between the channels of a frame. -/
structure FS (n : Nat) (W : Nat) (O : Obj) (w : World) (s : List UInt8 × List Bool) (wx : World) : Prop where
  hi : cnt s ≤ n
  lo : 8 ≤ cnt s
  sw : SW w.heap.size W s wx
  hd : wx.heap[w.heap.size]? = some O
  kp : Kp [] w wx
theorem FS.next {n m W : Nat} {c : Array Value} {T : TypeId} {fz : Nat × Nat} {w wx wy : World} {s s' : List UInt8 × List Bool} (h : FS n W (.cells c T fz) w s wx) (hT : T ≠ 5) (hW : w.heap.size ∉ [W]) (hs : SW w.heap.size W s' wy) (hf : Fr w.heap.size [W] wx wy) (h1 : cnt s' ≤ m) (h2 : 8 ≤ cnt s') : FS m W (.cells c T fz) w s' wy :=
  ⟨h1, h2, hs, hf.at h.hd hW hT, h.kp.thenFr hf (Nat.le_refl _)⟩
theorem FS.keep {n W : Nat} {O : Obj} {w wx wy : World} {s : List UInt8 × List Bool} (h : FS n W O w s wx) (k : Kp [] wx wy) : FS n W O w s wy :=
  ⟨h.hi, h.lo, h.sw.kp k (by simp), k.at h.hd (by simp), h.kp.trans k⟩

set_option maxRecDepth 100000 in
set_option maxHeartbeats 8000000 in
/-- spec.WriteFrame: some bytes. -/
theorem specFrame (va pl : Bool) (bs : Nat) (sr : Int) (ch bps num a acap c wcap : Nat) (wb : Addr) (w : World) (hbs : bs ≤ 256) (hbs0 : 1 ≤ bs) (hsr : RateOk sr) (hbps : BpsOk bps) (hnum : num < 2048) (hch : ch < 8) (hc : c = ch + 1) (hC : ChansAt c bs a w) :
    Calls Tryz.prog 21 #[headV va bs sr ch bps num, .slice (some ⟨a, 0, none⟩) c acap, .int .i64 bps, .slice (some wb) 0 wcap, .bool pl] w (SomeBytes 100000000 w) := by
  subst hc
  have HSR := Bx.mk hsr; clear hsr
  have HBP := Bx.mk hbps; clear hbps
  have HC0 := Bx.mk hC; clear hC
  have hb24 : bps ≤ 24 := by
    have h := HBP.out
    unfold BpsOk at h
    omega
  have HHD : Bx (∀ wz, Calls Tryz.prog 42 #[headV va bs sr ch bps num, .bool pl] wz (SomeBytes 200 wz)) := by
    refine ⟨fun wz => ?_⟩
    cases pl
    · refine (specHead va bs sr ch bps num wz hbs hbs0 HSR.out HBP.out hnum).mono ?_
      rintro e w' h
      refine ⟨_, ?_, ?_, h⟩
      · have := headB_length (!va) bs sr ch bps num
        unfold headS
        rw [List.length_append, List.length_singleton]; omega
      · unfold headS
        rw [List.length_append, List.length_singleton]; omega
    · exact specHeadP va bs sr ch bps num wz hbs hbs0 HSR.out HBP.out hnum
  unfold headV at HHD ⊢
  generalize hO : (Obj.cells #[.bool va, .int .i64 bs, .int .i64 sr, .int .i64 ch, .int .i64 bps, .int .u64 num] 43 (0, 0)) = O
  have HO := Bx.mk (heap_alloc_new w O)
  have HK0 := Bx.mk (Kp.alloc [] w O)
  subst hO
  go_enter Tryz.func21, Tryz.ntmps21
  go_wp2_with fail
  refine (HHD.out _).mono ?_
  rintro e w1 ⟨hd, hl1, hl2, g, cap, rfl, hown, hk⟩
  have HS : Bx (SW w.heap.size w1.heap.size (hd, []) (w1.alloc (.cells #[.slice (some ⟨g, 0, none⟩) hd.length cap, .int .i64 (8 * (hd.length : Int))] 158))) := by
    have hk' := HK0.out.trans hk
    refine ⟨_, ?_, (ownsRow_base hown (by simp)).alloc _, by simp, hk'.size, ?_⟩
    · rw [heap_alloc_new]
      simp [cnt]
    · have := hk'.size
      simp only [World.size_alloc]; omega
  have HK1 := Bx.mk ((HK0.out.trans hk).trans (Kp.alloc [] w1 (.cells #[.slice (some ⟨g, 0, none⟩) hd.length cap, .int .i64 (8 * (hd.length : Int))] 158)))
  have HH1 := Bx.mk (heap_alloc (x := .cells #[.slice (some ⟨g, 0, none⟩) hd.length cap, .int .i64 (8 * (hd.length : Int))] 158) (hk.at HO.out (by simp)))
  clear hown hk HHD HO HK0
  go_upto_region 3 with fail
  have HF : Bx (FS 1600 w1.heap.size (.cells #[.bool va, .int .i64 bs, .int .i64 sr, .int .i64 ch, .int .i64 bps, .int .u64 num] 43 (0, 0)) w (hd, []) (w1.alloc (.cells #[.slice (some ⟨g, 0, none⟩) hd.length cap, .int .i64 (8 * (hd.length : Int))] 158))) := ⟨⟨by simp only [cnt, List.length_nil]; omega, by simp only [cnt, List.length_nil]; omega, HS.out, HH1.out, HK1.out⟩⟩
  have HWW : Bx (w.heap.size ∉ [w1.heap.size]) := by
    have := Lib.lt_of_heap HF.out.hd
    have h2 := HK1.out
    refine ⟨fun hm => ?_⟩
    have e : w.heap.size = w1.heap.size := by simpa using hm
    have hh := HF.out.hd
    rw [e, heap_alloc_new] at hh
    simp at hh
  clear HS HK1 HH1
  generalize w1.alloc (.cells #[.slice (some ⟨g, 0, none⟩) hd.length cap, .int .i64 (8 * (hd.length : Int))] 158) = w2 at HF ⊢
  have d3 := Lib.cell_of_heap HF.out.hd 3
  simp only [List.getElem?_toArray, List.getElem?_cons_zero, List.getElem?_cons_succ] at d3
  have h7 : ¬ 7 < ch := by omega
  go_wp2_with fail
  clear d3
  have HWI : Bx (w1.heap.size = w1.heap.size) := ⟨rfl⟩
  generalize hW : w1.heap.size = W at HF HWW ⊢
  clear HWI hW
  go_loopw [55] (fun j wx => ∃ (k : Nat) (s : List UInt8 × List Bool), k ≤ ch + 1 ∧ j = .int .i64 k ∧ FS (1600 + 8000 * k) W (.cells #[.bool va, .int .i64 bs, .int .i64 sr, .int .i64 ch, .int .i64 bps, .int .u64 num] 43 (0, 0)) w s wx) (fun j _ => ch + 1 - (intOf j).toNat)
  case atStart => exact ⟨0, _, by omega, rfl, HF.out⟩
  case round =>
    clear HF
    obtain ⟨k, s, hk, rfl, hf⟩ := hrel
    have HF := Bx.mk hf
    clear hf
    by_cases hkn : k < ch + 1
    · obtain ⟨gx, xcap, hcl, xs, hxl, hxb, hxa⟩ := HC0.out.getK hkn
      have hca := hcl wr HF.out.kp
      have HXL := Bx.mk hxl
      have HXB := Bx.mk hxb
      have HXA := Bx.mk hxa
      have HKN := Bx.mk hkn
      clear hcl hxl hxb hxa
      have d3 := Lib.cell_of_heap HF.out.hd 3
      have dl := Lib.lt_of_heap HF.out.hd
      simp only [List.getElem?_toArray, List.getElem?_cons_zero, List.getElem?_cons_succ] at d3
      go_wp2_with fail
      clear hca d3
      refine (specSide ch k hch _).mono ?_
      rintro e w3 ⟨rfl, rfl⟩
      have HF2 := Bx.mk (HF.out.keep (Kp.alloc [] w3 (.cells #[.int .i64 1, .int .i64 0, .int .i64 0, .slice none 0 0, .int .i64 0, .int .i64 0, .int .i64 0, .int .i64 0, .bool false, .int .i64 0] 93)))
      have HX2 := Bx.mk (HXA.out.kp HF2.out.kp (by simp))
      go_wp2_with fail
      have hf := wayFit gx xcap bps xs (w3.alloc (.cells #[.int .i64 1, .int .i64 0, .int .i64 0, .slice none 0 0, .int .i64 0, .int .i64 0, .int .i64 0, .int .i64 0, .bool false, .int .i64 0] 93)) HX2.out (by rw [HXL.out]; exact hbs0) (by rw [HXL.out]; exact hbs) (fun x hx => by have := HXB.out x hx; omega)
      rw [HXL.out] at hf
      unfold wayV at hf
      refine hf.mono ?_
      rintro e w4 ⟨rfl, hk4⟩
      have HF4 := Bx.mk (HF2.out.keep hk4)
      have HX4 := Bx.mk (HX2.out.kp hk4 (by simp))
      clear hf hk4 HF2 HX2
      go_wp2_with fail
      have hc4 := specChannel w.heap.size W gx xcap bps xs s w4 HF4.out.sw HX4.out (by rw [HXL.out]; exact hbs) (by omega) (by have := HF4.out.hi; omega)
      rw [HXL.out] at hc4
      unfold wayV at hc4
      refine hc4.mono ?_
      rintro e w5 ⟨rfl, hs5, hf5⟩
      have hln : (subHead 1 0 ++ verbB xs bps).length ≤ 8000 := by
        have h1 : xs.length * bps ≤ 256 * 24 := Nat.mul_le_mul (by rw [HXL.out]; exact hbs) hb24
        have h3 : (subHead 1 0).length = 8 := by simp [subHead, bitsN_length]
        rw [List.length_append, verbB_length, h3]; omega
      have HF5 := Bx.mk (HF4.out.next (m := 1600 + 8000 * (k + 1)) (by decide) HWW.out hs5 hf5 (by rw [cnt_wrB]; have := HF4.out.hi; omega) (by rw [cnt_wrB]; have := HF4.out.lo; omega))
      clear hc4 hs5 hf5 hln HF4 HX4 HF
      go_wp2_with fail
      go_roundw
      case rel => exact ⟨k + 1, _, HKN.out, by go_num, HF5.out⟩
      case measure =>
        have := HKN.out
        simp [intOf]; omega
    · obtain rfl : k = ch + 1 := by omega
      have hfew := HF.out.sw.few
      have hcm := cnt_mod _ hfew
      have hi0 := HF.out.hi
      have HCM := Bx.mk hcm
      have HLO := Bx.mk HF.out.lo
      clear hcm
      go_wp2_with fail
      go_loopw [] (fun wx => ∃ t : Nat, t ≤ (8 - s.2.length) % 8 ∧ SW w.heap.size W (wrB s (List.replicate t false)) wx ∧ Kp [] w wx) (fun wx => lackAt W wx)
      case atStart => exact ⟨0, by omega, by simpa [wrB_nil] using HF.out.sw, HF.out.kp⟩
      case round =>
        clear HF
        obtain ⟨t, ht, hsw, hkp⟩ := hrel
        have HS := Bx.mk hsw
        have HK := Bx.mk hkp
        obtain ⟨v, hWc, _⟩ := id hsw
        have c1 := Lib.cell_of_heap hWc 1
        have hWl := Lib.lt_of_heap hWc
        simp only [List.getElem?_toArray, List.getElem?_cons_zero, List.getElem?_cons_succ] at c1
        have hct := cnt_wrB s (List.replicate t false)
        rw [List.length_replicate] at hct
        have HCT := Bx.mk hct
        have hc8 := HCM.out
        generalize cnt (wrB s (List.replicate t false)) = n at c1 hct
        clear hsw hkp hWc
        by_cases htt : t < (8 - s.2.length) % 8
        · have HTT := Bx.mk htt
          have hz1 : ((n : Int) % 8 != 0) = true := by
            simp only [bne_iff_ne, ne_eq]; omega
          have hz2 : ((n : Int) % 8 == 0) = false := by
            simp only [beq_eq_false_iff_ne, ne_eq]; omega
          have hn0 : n ≤ 2000000000 := by omega
          clear hct hc8
          go_wp2_with fail
          clear c1
          refine (swordI w.heap.size W 0 1 _ _ HS.out (by omega) (by omega) (by have := HCT.out; rw [this]; simp; omega)).mono ?_
          rintro e w6 ⟨rfl, hsw, hf, _⟩
          rw [show bitsN 0 (1 : Int).toNat = [false] from rfl, ← wrB_append, ← List.replicate_succ'] at hsw
          have HS6 := Bx.mk hsw
          have HK6 := Bx.mk (HK.out.thenFr hf (Nat.le_refl _))
          clear hsw hf
          go_wp2_with fail
          go_roundw
          case rel => (repeat apply Exists.intro); exact ⟨⟨t + 1, HTT.out, HS6.out, HK6.out⟩, rfl⟩
          case measure =>
            have h1 := lackAt_eq HS6.out
            have h2 := lackAt_eq HS.out
            rw [h1, h2]
            have h3 := cnt_wrB s (List.replicate (t + 1) false)
            have h4 := HCT.out
            have h5 := HTT.out
            have h6 := HCM.out
            rw [List.length_replicate] at h3
            omega
        · obtain rfl : t = (8 - s.2.length) % 8 := by omega
          have hz1 : ((n : Int) % 8 != 0) = false := by
            simp only [bne_eq_false_iff_eq]; omega
          have hz2 : ((n : Int) % 8 == 0) = true := by
            simp only [beq_iff_eq]; omega
          have hlo := HLO.out
          have hcs := HCT.out
          generalize wrB s (List.replicate ((8 - s.2.length) % 8) false) = s2 at HS hcs
          have hol : 0 < (outB s2).length ∧ (outB s2).length ≤ 100000 := by
            have h8 := HS.out.few
            rw [outB_length]
            unfold cnt at hcs hlo hi0
            split <;> omega
          obtain ⟨vw, hWc, hown, _, _, _⟩ := id HS.out
          obtain ⟨g', cap', rfl, hg1, hg2⟩ := hown.form hol.1
          have c0 := Lib.cell_of_heap hWc 0
          simp only [List.getElem?_toArray, List.getElem?_cons_zero] at c0
          have HBA : Bx (BytesAt g' 0 (outB s2) wr) := by
            refine ⟨fun i x hx => ?_⟩
            have h1 := hown.cellAt i (by simpa using (List.getElem?_eq_some_iff.1 hx).1)
            rw [Nat.zero_add, h1]
            simp [Lib.byteCells, hx]
          have HOL := Bx.mk hol
          have HCS : Bx (cnt s2 ≤ 100000 ∧ 8 ≤ cnt s2) := ⟨by omega⟩
          clear hWc hown hol hct hc8 hlo hcs hi0 HCT HCM HLO hfew ht htt
          go_wp2_with fail
          clear c0 c1 hz2
          refine (scrc16a g' cap' _ _ HBA.out (by have := HOL.out; omega)).mono ?_
          rintro e w7 ⟨rfl, q, rfl⟩
          go_wp2_with fail
          refine (swordI w.heap.size W _ 16 _ _ (HS.out.kp (Kp.drewN [] wr q) (by simp)) (by omega) (by omega) (by have := HCS.out; rw [show (16 : Int).toNat = 16 from rfl]; omega)).mono ?_
          rintro e w8 ⟨rfl, hsw, hf, _⟩
          have hcn := cnt_wrB s2 (bitsN ((crc16 (outB s2)).toNat : Int) (16 : Int).toNat)
          rw [bitsN_length, show (16 : Int).toNat = 16 from rfl] at hcn
          rw [show (16 : Int).toNat = 16 from rfl] at hsw
          generalize wrB s2 (bitsN ((crc16 (outB s2)).toNat : Int) 16) = s3 at hsw hcn
          have HK8 := Bx.mk ((HK.out.trans (Kp.drewN [] wr q)).thenFr hf (Nat.le_refl _))
          obtain ⟨vw, hWc, hown, hf8, _, _⟩ := hsw
          have hol : 0 < (outB s3).length ∧ (outB s3).length ≤ 100000000 := by
            have h8 := HCS.out
            rw [outB_length]
            unfold cnt at hcn h8
            split <;> omega
          obtain ⟨g3, cap3, rfl, hg3, hg4⟩ := hown.form hol.1
          have c0 := Lib.cell_of_heap hWc 0
          simp only [List.getElem?_toArray, List.getElem?_cons_zero] at c0
          have HOL3 := Bx.mk hol
          have HOW := Bx.mk hown
          clear hWc hown hol hcn hf8 hf
          go_wp2_with fail
          go_ret
          exact ⟨outB s3, HOL3.out.2, HOL3.out.1, g3, cap3, rfl, HOW.out, HK8.out⟩
end Go.Proofs.YtemcpcgcnjahjaaGreatDoor
