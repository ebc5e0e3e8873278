/-
  A channel, whole.
-/
import Derived.Test.YtemcpcgcnjahjaaGreatDoorLpc
import Derived.Defers
namespace Go.Proofs.YtemcpcgcnjahjaaGreatDoor
open Go.RowKit

/-- How many to a part. -/
def PSub.n (c : PSub) : Nat := c.smp.length / 2 ^ c.parts
/-- The rests of a channel, with what stands ahead of them. -/
def PSub.restBits (c : PSub) : List Bool := bitsN 0 2 ++ (bitsN c.parts 4 ++ partsB c.n c.ord (rests c.ord c.smp) c.pars c.pars.length)
/-- A channel's bits. -/
def PSub.bits (c : PSub) (bps : Nat) : List Bool :=
  subHead c.kind c.ord ++ if c.kind = 0 then bitsN (c.smp.getD 0 0) bps else if c.kind = 1 then verbB c.smp bps else verbB (c.smp.take c.ord) bps ++ c.restBits

/-- What is known of a channel that can be written. -/
structure PSub.Ok (c : PSub) : Prop where
  some : 1 ≤ c.smp.length
  few : c.smp.length ≤ 256
  kind : c.kind ≤ 2
  mid : Mid c.smp
  ord : c.ord ≤ 4
  same : c.kind = 0 → ∀ j, j < c.smp.length → c.smp.getD j 0 = c.smp.getD 0 0
  less : c.kind = 2 → c.ord < c.smp.length
  parts : c.kind = 2 → c.parts ≤ 2 ∧ c.pars.length = 2 ^ c.parts ∧ c.n * 2 ^ c.parts = c.smp.length ∧ c.ord ≤ c.n
  rests : c.kind = 2 → RestsOk (rests c.ord c.smp) c.pars

set_option maxRecDepth 100000 in
set_option maxHeartbeats 4000000 in
/-- encodeResiduals. -/
theorem encRests {B : Nat} (σ : Snk B) (W : Nat) (c : PSub) (a R P g cap pcap rg rcap : Nat) (v4 v5 v6 : Value) (s : List UInt8 × List Bool) (w : World) (h : BW σ W s w)
    (hs : SubAt c a R P g cap pcap v4 v5 v6 w) (hL : ∀ k ∈ [a, R, P, g], k ∉ W :: σ.S) (hr : I32At rg (rests c.ord c.smp) w) (hrg : rg ∉ W :: σ.S) (hok : c.Ok) (hk : c.kind = 2)
    (hl : cnt s + 20000000000 ≤ 70368744177664) :
    Calls Tryz.prog 104 #[.pointer (some ⟨W, 0, none⟩), .pointer (some ⟨a, 0, none⟩), .slice (some ⟨rg, 0, none⟩) (c.smp.length - c.ord) rcap] w (Wrote σ W s c.restBits w) := by
  have HL := Lib.hid hl; clear hl
  have H := Lib.hid h; clear h
  have HO := Lib.hid hL; clear hL
  have HRG := Lib.hid hrg; clear hrg
  have HOK := Lib.hid hok; clear hok
  have HKK := Lib.hid hk; clear hk
  have c3 := Lib.cell_of_heap hs.sub 3
  simp only [List.getElem?_toArray, List.getElem?_cons_zero, List.getElem?_cons_succ] at c3
  have HS := Lib.hid hs; clear hs
  have HR := Lib.hid hr; clear hr
  go_enter Tryz.func104, Tryz.ntmps104
  go_wp2_with fail
  refine (wbits σ W 0 2 s _ H.out (by omega) (by omega) (by omega) (by omega) (by have := HL.out; omega)).mono ?_
  rintro e w1 ⟨rfl, hb1, hf1⟩
  rw [show (2 : Int).toNat = 2 from rfl] at hb1
  have HB := Lib.hid hb1
  have HF := Lib.hid hf1
  clear hb1 hf1 c3
  have HLW : Hid (cnt (wrB s (bitsN 0 2)) + 10000000000 ≤ 70368744177664) := by
    have := HL.out
    show _ ≤ _
    rw [cnt_wrB, bitsN_length]; omega
  have HS1 := Lib.hid (HS.out.fr HF.out HO.out)
  have HR1 := Lib.hid (HR.out.fr HF.out HRG.out)
  clear HS HR
  have c3 := Lib.cell_of_heap HS1.out.sub 3
  simp only [List.getElem?_toArray, List.getElem?_cons_zero, List.getElem?_cons_succ] at c3
  have hp := Lib.hid (HOK.out.parts HKK.out)
  have hrl : Hid ((rests c.ord c.smp).length = c.smp.length - c.ord) := rests_length _ _
  rw [← hrl.out]
  go_wp2_with fail
  refine (encParts σ W c a R P g cap pcap rg rcap c.n v4 v5 v6 (rests c.ord c.smp) _ _ HB.out HS1.out HO.out HR1.out HRG.out hp.out.2.2.1 hp.out.2.1 hp.out.1 hp.out.2.2.2 (by have := hrl.out; have := HOK.out.less HKK.out; omega) (by have := HOK.out.few; omega) (HOK.out.rests HKK.out) HLW.out).mono ?_
  rintro e w2 ⟨rfl, hb2, hf2⟩
  rw [← wrB_append] at hb2
  have HB2 := Lib.hid hb2
  have HF2 := Lib.hid hf2
  clear hb2 hf2
  go_wp2_with fail
  go_ret
  exact ⟨rfl, HB2.out, HF.out.trans HF2.out⟩

set_option maxRecDepth 100000 in
set_option maxHeartbeats 4000000 in
/-- encodeFixedSamples. -/
theorem encFixed {B : Nat} (σ : Snk B) (W : Nat) (c : PSub) (a R P g cap pcap : Nat) (v4 v5 v6 : Value) (bps : Nat) (s : List UInt8 × List Bool) (w : World) (h : BW σ W s w)
    (hs : SubAt c a R P g cap pcap v4 v5 v6 w) (hL : ∀ k ∈ [a, R, P, g], k ∉ W :: σ.S) (hok : c.Ok) (hk : c.kind = 2) (hb : bps ≤ 64)
    (hl : cnt s + 30000000000 ≤ 70368744177664) (f0 f1 f2 f3 f4 f5 : Value) :
    Calls Tryz.prog 77 #[.pointer (some ⟨W, 0, none⟩), .agg #[f0, f1, f2, f3, f4, f5], .pointer (some ⟨a, 0, none⟩), .int .u64 bps] w (Wrote σ W s (verbB (c.smp.take c.ord) bps ++ c.restBits) w) := by
  have HL := Lib.hid hl; clear hl
  have H := Lib.hid h; clear h
  have HO := Lib.hid hL; clear hL
  have HOK := Lib.hid hok; clear hok
  have HKK := Lib.hid hk; clear hk
  have a1 := Lib.lt_of_heap hs.sub
  have c8 := Lib.cell_of_heap hs.sub 8
  simp only [List.getElem?_toArray, List.getElem?_cons_zero, List.getElem?_cons_succ] at c8
  have hle := hs.le
  have HF := Kp.fr (S := []) (Kp.alloc [] w (.cells #[f0, f1, f2, f3, f4, f5] 69)) H.out.baseLe (by simp)
  have HS := Lib.hid (hs.fr HF (by simp)); clear hs
  replace HF := Lib.hid HF
  have H2 := Lib.hid (H.out.alloc (.cells #[f0, f1, f2, f3, f4, f5] 69))
  go_enter Tryz.func77, Tryz.ntmps77
  go_wp2_with fail
  have hlo := HOK.out.less HKK.out
  have hfe := HOK.out.few
  have ho4 := HOK.out.ord
  go_loopw [10] (fun j wx => ∃ k : Nat, k ≤ c.ord ∧ j = .int .i64 k ∧ BW σ W (wrB s (verbB (c.smp.take k) bps)) wx ∧ Fr B (W :: σ.S) w wx ∧ SubAt c a R P g cap pcap v4 v5 v6 wx) (fun j _ => c.ord - (intOf j).toNat)
  case atStart => exact ⟨0, by omega, rfl, H2.out, HF.out.mono (Nat.le_refl _) (by simp), HS.out⟩
  case round =>
    clear H2 HF HS a1 c8
    obtain ⟨k, hk, rfl, hbw, hfr, hsa⟩ := hrel
    have HBW := Lib.hid hbw; clear hbw
    have HFR := Lib.hid hfr; clear hfr
    have HSA := Lib.hid hsa; clear hsa
    have c1 := Lib.cell_of_heap HSA.out.sub 1
    simp only [List.getElem?_toArray, List.getElem?_cons_zero, List.getElem?_cons_succ] at c1
    by_cases hkn : k < c.ord
    · have hcell := HSA.out.get k (by omega)
      have HT := Lib.hid (verbB_take c.smp bps k (by omega))
      have HN : Hid (cnt (wrB s (verbB (c.smp.take k) bps)) + bps ≤ 70368744177664) := by
        have h1 := HL.out
        have h2 : k * bps ≤ 4 * 64 := Nat.mul_le_mul (by omega) hb
        show _ ≤ _
        rw [cnt_wrB, verbB_length, List.length_take_of_le (by omega)]
        omega
      generalize c.smp.getD k 0 = x at hcell HT
      have hw1 : Hid (bitsN (IntKind.u64.wrap x) bps = bitsN x bps) := by
        show _ = _
        rw [IntKind.wrap_u64]; exact bitsN_mod64 _ _ hb
      have hw0 : Hid (0 ≤ IntKind.u64.wrap x ∧ IntKind.u64.wrap x < 18446744073709551616) := by
        show _ ∧ _
        rw [IntKind.wrap_u64]; omega
      go_wp2_with fail
      refine (wbits σ W _ bps _ _ HBW.out hw0.out.1 hw0.out.2 (by omega) (by omega) (by have := HN.out; omega)).mono ?_
      rintro e w1 ⟨rfl, hb1, hf1⟩
      rw [Int.toNat_natCast, hw1.out, ← wrB_append, ← HT.out] at hb1
      have HB := Lib.hid hb1
      have HG := Lib.hid hf1
      clear hb1 hf1
      go_wp2_with fail
      go_roundw
      case rel => exact ⟨k + 1, by omega, by go_num, HB.out, HFR.out.trans HG.out, HSA.out.fr HG.out HO.out⟩
      case measure => simp [intOf]; omega
    · obtain rfl : k = c.ord := by omega
      go_wp2_with fail
      refine (fixedCoeffs c.ord ho4 _).mono ?_
      rintro e w1 ⟨vc, rfl, hI, hkp⟩
      have HI := Lib.hid hI
      have HK := Lib.hid hkp
      clear hI hkp c1
      go_wp2_with fail
      have HFR1 := Lib.hid (HFR.out.trans ((HK.out.fr HBW.out.baseLe (by simp)).mono (Nat.le_refl _) (by simp)))
      have HSA1 := Lib.hid (HSA.out.fr (HK.out.fr HBW.out.baseLe (by simp)) (by simp))
      have HBW1 := Lib.hid (HBW.out.kp HK.out (by simp))
      clear HBW HFR HSA
      refine (lpcRests _ c a R P g cap pcap vc v4 v5 v6 w1 HSA1.out HI.out ho4 hlo (by omega) HOK.out.mid).mono ?_
      rintro e w2 ⟨rg, rcap, rfl, hrg, hra, hkp⟩
      have HK2 := Lib.hid hkp
      have HRG := Lib.hid hrg
      have HRA := Lib.hid hra
      clear hkp hrg hra
      have HFR2 := Lib.hid (HFR1.out.trans ((HK2.out.fr HBW1.out.baseLe (by simp)).mono (Nat.le_refl _) (by simp)))
      have HSA2 := Lib.hid (HSA1.out.fr (HK2.out.fr HBW1.out.baseLe (by simp)) (by simp))
      have HBW2 := Lib.hid (HBW1.out.kp HK2.out (by simp))
      have HNG : Hid (rg ∉ W :: σ.S) := by
        show ¬ _
        intro hm
        have h1 := HRG.out
        rcases List.mem_cons.1 hm with e | e
        · have := HBW1.out.lt; omega
        · have := ((σ.live HBW1.out.sink).2 _ e).2.1; omega
      clear HBW1 HFR1 HSA1
      go_wp2_with fail
      refine (encRests σ W c a R P g cap pcap rg rcap v4 v5 v6 _ _ HBW2.out HSA2.out HO.out HRA.out HNG.out HOK.out HKK.out (by have h1 := HL.out; have h2 : c.ord * bps ≤ 4 * 64 := Nat.mul_le_mul (by omega) hb; rw [cnt_wrB, verbB_length, List.length_take_of_le (by omega)]; omega)).mono ?_
      rintro e w3 ⟨rfl, hb3, hf3⟩
      rw [← wrB_append] at hb3
      have HB3 := Lib.hid hb3
      have HF3 := Lib.hid hf3
      clear hb3 hf3
      go_wp2_with fail
      go_ret
      exact ⟨rfl, HB3.out, HFR2.out.trans HF3.out⟩

set_option maxRecDepth 100000 in
set_option maxHeartbeats 4000000 in
/-- encodeSubframe. -/
theorem encSub {B : Nat} (σ : Snk B) (W : Nat) (c : PSub) (a R P g cap pcap : Nat) (v4 v5 v6 : Value) (bps : Nat) (s : List UInt8 × List Bool) (w : World) (h : BW σ W s w)
    (hs : SubAt c a R P g cap pcap v4 v5 v6 w) (hL : ∀ k ∈ [a, R, P, g], k ∉ W :: σ.S) (hok : c.Ok) (hb : bps ≤ 64)
    (hl : cnt s + 40000000000 ≤ 70368744177664) (f0 f2 f3 f4 f5 : Value) :
    Calls Tryz.prog 40 #[.pointer (some ⟨W, 0, none⟩), .agg #[f0, .int .u16 c.smp.length, f2, f3, f4, f5], .pointer (some ⟨a, 0, none⟩), .int .u64 bps] w (Wrote σ W s (c.bits bps) w) := by
  have HL := Lib.hid hl; clear hl
  have H := Lib.hid h; clear h
  have HO := Lib.hid hL; clear hL
  have HOK := Lib.hid hok; clear hok
  have a1 := Lib.lt_of_heap hs.sub
  have c0 := Lib.cell_of_heap hs.sub 0
  have c1 := Lib.cell_of_heap hs.sub 1
  have c2 := Lib.cell_of_heap hs.sub 2
  have c3 := Lib.cell_of_heap hs.sub 3
  have c4 := Lib.cell_of_heap hs.sub 4
  have c5 := Lib.cell_of_heap hs.sub 5
  have c6 := Lib.cell_of_heap hs.sub 6
  have c7 := Lib.cell_of_heap hs.sub 7
  simp only [List.getElem?_toArray, List.getElem?_cons_zero, List.getElem?_cons_succ] at c0 c1 c2 c3 c4 c5 c6 c7
  have HS := Lib.hid hs; clear hs
  go_enter_defers Tryz.func40, Tryz.ntmps40
  go_wp2_with fail
  clear c0 c1 c2 c3 c4 c5 c6 c7
  have HBA : Hid (BW σ W s ((w.alloc (.cells #[f0, .int .u16 c.smp.length, f2, f3, f4, f5] 69)).alloc (.cells #[.pointer (some ⟨a, 0, none⟩)] 78))) := (H.out.alloc _).alloc _
  have HFA : Hid (Fr B [] w ((w.alloc (.cells #[f0, .int .u16 c.smp.length, f2, f3, f4, f5] 69)).alloc (.cells #[.pointer (some ⟨a, 0, none⟩)] 78))) := Kp.fr ((Kp.alloc [] _ _).trans (Kp.alloc [] _ _)) H.out.baseLe (by simp)
  have HX1 : Hid (((w.alloc (.cells #[f0, .int .u16 c.smp.length, f2, f3, f4, f5] 69)).alloc (.cells #[.pointer (some ⟨a, 0, none⟩)] 78)).heap[w.heap.size]? = some (.cells #[f0, .int .u16 c.smp.length, f2, f3, f4, f5] 69 (0, 0))) := heap_alloc (heap_alloc_new _ _)
  have HX2 : Hid (((w.alloc (.cells #[f0, .int .u16 c.smp.length, f2, f3, f4, f5] 69)).alloc (.cells #[.pointer (some ⟨a, 0, none⟩)] 78)).heap[w.heap.size + 1]? = some (.cells #[.pointer (some ⟨a, 0, none⟩)] 78 (0, 0))) := by
    have := heap_alloc_new (w.alloc (.cells #[f0, .int .u16 c.smp.length, f2, f3, f4, f5] 69)) (.cells #[.pointer (some ⟨a, 0, none⟩)] 78)
    rw [World.size_alloc] at this
    exact this
  have HN1 := Lib.hid H.out.new
  have HN2 : Hid (w.heap.size + 1 ∉ W :: σ.S) := by
    have := (H.out.alloc (.cells #[f0, .int .u16 c.smp.length, f2, f3, f4, f5] 69)).new
    rw [World.size_alloc] at this
    exact this
  have HSA := Lib.hid (HS.out.fr HFA.out (by simp))
  have hk2 := HOK.out.kind
  refine (encSubHeader σ W c.kind c.ord _ _ _ _ _ _ _ HBA.out hk2 HOK.out.ord (by have := HL.out; omega)).mono ?_
  rintro e w1 ⟨rfl, hb1, hf1⟩
  have HB := Lib.hid hb1
  have HF := Lib.hid ((HFA.out.mono (Nat.le_refl _) (by simp)).trans hf1)
  have HS1 := Lib.hid (HSA.out.fr hf1 HO.out)
  have hx1 := hf1.at HX1.out HN1.out (by decide)
  have hx2 := hf1.at HX2.out HN2.out (by decide)
  have h1 := Lib.lt_of_heap hx1
  have h2 := Lib.lt_of_heap hx2
  have d0 := Lib.cell_of_heap hx1 0
  have d1 := Lib.cell_of_heap hx1 1
  have d2 := Lib.cell_of_heap hx1 2
  have d3 := Lib.cell_of_heap hx1 3
  have d4 := Lib.cell_of_heap hx1 4
  have d5 := Lib.cell_of_heap hx1 5
  have e0 := Lib.cell_of_heap hx2 0
  have c0 := Lib.cell_of_heap HS1.out.sub 0
  have c2 := Lib.cell_of_heap HS1.out.sub 2
  simp only [List.getElem?_toArray, List.getElem?_cons_zero, List.getElem?_cons_succ] at d0 d1 d2 d3 d4 d5 e0 c0 c2
  have HPOST : Hid (c.bits bps = subHead c.kind c.ord ++ if c.kind = 0 then bitsN (c.smp.getD 0 0) bps else if c.kind = 1 then verbB c.smp bps else verbB (c.smp.take c.ord) bps ++ c.restBits) := rfl
  have HCW : Hid (cnt (wrB s (subHead c.kind c.ord)) + 30000000000 ≤ 70368744177664) := by
    have := HL.out
    show _ ≤ _
    rw [cnt_wrB]
    have h3 : (subHead c.kind c.ord).length = 8 := by simp [subHead, bitsN_length]
    rw [h3]; omega
  clear hb1 hf1 hx1 hx2
  have hk3 : c.kind = 0 ∨ c.kind = 1 ∨ c.kind = 2 := by omega
  clear hk2
  rcases hk3 with hk | hk | hk
  · have HKK := Lib.hid hk
    have HPE : Hid (c.bits bps = subHead c.kind c.ord ++ bitsN (c.smp.getD 0 0) bps) := by
      have := HPOST.out
      simp only [hk, if_true] at this
      show _ = _
      rw [this, hk]
    clear HPOST
    go_wp2_with fail
    clear d0 d1 d2 d3 d4 d5 e0 c0 c2
    refine (encConst σ W c a R P g cap pcap v4 v5 v6 bps _ _ HB.out HS1.out HOK.out.some (by have := HOK.out.few; omega) (HOK.out.same HKK.out) hb (by have := HCW.out; omega) f0 (.int .u16 c.smp.length) f2 f3 f4 f5).mono ?_
    rintro e w2 ⟨rfl, hb2, hf2⟩
    rw [← wrB_append, ← HPE.out] at hb2
    have HB2 := Lib.hid hb2
    have HF2 := Lib.hid hf2
    clear hb2 hf2
    go_wp2_with fail
    exact ⟨_, results_tmp rfl _ _ _, rfl, HB2.out, HF.out.trans HF2.out⟩
  · have HKK := Lib.hid hk
    have HPE : Hid (c.bits bps = subHead c.kind c.ord ++ verbB c.smp bps) := by
      have := HPOST.out
      simp only [hk, if_true, if_false, show ¬ (1 : Nat) = 0 by decide] at this
      show _ = _
      rw [this, hk]
    clear HPOST
    go_wp2_with fail
    clear d0 d1 d2 d3 d4 d5 e0 c0 c2
    refine (encVerb σ W c a R P g cap pcap v4 v5 v6 bps _ _ HB.out HS1.out HO.out HOK.out.some (by have := HOK.out.few; omega) hb (by have h1 := HCW.out; have h2 : c.smp.length * bps ≤ 256 * 64 := Nat.mul_le_mul HOK.out.few hb; omega) f0 f2 f3 f4 f5).mono ?_
    rintro e w2 ⟨rfl, hb2, hf2⟩
    rw [← wrB_append, ← HPE.out] at hb2
    have HB2 := Lib.hid hb2
    have HF2 := Lib.hid hf2
    clear hb2 hf2
    go_wp2_with fail
    exact ⟨_, results_tmp rfl _ _ _, rfl, HB2.out, HF.out.trans HF2.out⟩
  · have HKK := Lib.hid hk
    have HPE : Hid (c.bits bps = subHead c.kind c.ord ++ (verbB (c.smp.take c.ord) bps ++ c.restBits)) := by
      have := HPOST.out
      simp only [hk, if_false, show ¬ (2 : Nat) = 0 by decide, show ¬ (2 : Nat) = 1 by decide] at this
      show _ = _
      rw [this, hk]
    clear HPOST
    go_wp2_with fail
    clear d0 d1 d2 d3 d4 d5 e0 c0 c2
    refine (encFixed σ W c a R P g cap pcap v4 v5 v6 bps _ _ HB.out HS1.out HO.out HOK.out HKK.out hb (by have := HCW.out; omega) f0 (.int .u16 c.smp.length) f2 f3 f4 f5).mono ?_
    rintro e w2 ⟨rfl, hb2, hf2⟩
    rw [← wrB_append, ← HPE.out] at hb2
    have HB2 := Lib.hid hb2
    have HF2 := Lib.hid hf2
    clear hb2 hf2
    go_wp2_with fail
    exact ⟨_, results_tmp rfl _ _ _, rfl, HB2.out, HF.out.trans HF2.out⟩
end Go.Proofs.YtemcpcgcnjahjaaGreatDoor
/-
  What a frame does with channels that stand alone: nothing.
-/
namespace Go.Proofs.YtemcpcgcnjahjaaGreatDoor
open Go.RowKit

set_option maxRecDepth 100000 in
set_option maxHeartbeats 4000000 in
/-- Decorrelate. -/
theorem decorr (F ch : Nat) (w : World) (h : w.cell? ⟨F, 3, none⟩ = some (.int .u8 ch)) (hc : ch < 8) :
    Calls Tryz.prog 37 #[.pointer (some ⟨F, 0, none⟩)] w fun e w' => e = .returned (.tuple #[]) ∧ w' = w := by
  have h8 : ((ch : Int) == 8) = false := by simp; omega
  have h9 : ((ch : Int) == 9) = false := by simp; omega
  have h10 : ((ch : Int) == 10) = false := by simp; omega
  go_enter Tryz.func37, Tryz.ntmps37
  go_wp2_with fail
  go_end0
  exact ⟨rfl, rfl⟩

set_option maxRecDepth 100000 in
set_option maxHeartbeats 4000000 in
/-- Correlate, deferred. -/
theorem corrD (F ch : Nat) (u : FrameMode) (w : World) (h : w.cell? ⟨F, 3, none⟩ = some (.int .u8 ch)) (hc : ch < 8) :
    CallsD Tryz.prog 38 #[.pointer (some ⟨F, 0, none⟩)] u w fun e u' w' => u' = u ∧ (e = .returned (.tuple #[]) ∧ w' = w) := by
  have h8 : ((ch : Int) == 8) = false := by simp; omega
  have h9 : ((ch : Int) == 9) = false := by simp; omega
  have h10 : ((ch : Int) == 10) = false := by simp; omega
  go_enter_d Tryz.func38, Tryz.ntmps38
  go_wp2_with fail
  go_end0
  exact ⟨rfl, rfl⟩
end Go.Proofs.YtemcpcgcnjahjaaGreatDoor
