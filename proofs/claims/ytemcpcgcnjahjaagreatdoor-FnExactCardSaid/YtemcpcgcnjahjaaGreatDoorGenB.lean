/-
  The reference's channel as it stands, and its way.
-/
import Derived.Test.YtemcpcgcnjahjaaGreatDoorGenA
import Derived.Test.YtemcpcgcnjahjaaGreatDoorSpecF
namespace Go.Proofs.YtemcpcgcnjahjaaGreatDoor
open Go.RowKit

/-- The way as it stands. -/
def wayV : Value := .agg #[.int .i64 1, .int .i64 0, .int .i64 0, .slice none 0 0, .int .i64 0, .int .i64 0, .int .i64 0, .int .i64 0, .bool false, .int .i64 0]

set_option maxRecDepth 100000 in
set_option maxHeartbeats 4000000 in
/-- (Way).Fit: as it stands. -/
theorem wayFit (g cap bps : Nat) (xs : List Int) (w : World) (hx : IntAt g xs w) (h1 : 1 ≤ xs.length) (hl : xs.length ≤ 256) (hr : ∀ x ∈ xs, -9223372036854775808 ≤ x ∧ x ≤ 9223372036854775807) :
    Calls Tryz.prog 49 #[wayV, .slice (some ⟨g, 0, none⟩) xs.length cap, .int .i64 bps] w fun e w' => e = .returned wayV ∧ Kp [] w w' := by
  have HX := Bx.mk hx; clear hx
  have HR := Bx.mk hr; clear hr
  unfold wayV
  go_enter Tryz.func49, Tryz.ntmps49
  go_wp2_with fail
  have HXA := Bx.mk (HX.out.kp ((Kp.alloc [] w (.cells #[.int .i64 1, .int .i64 0, .int .i64 0, .slice none 0 0, .int .i64 0, .int .i64 0, .int .i64 0, .int .i64 0, .bool false, .int .i64 0] 93)).trans (Kp.alloc [] _ (.cells #[.int .i64 0, .int .i64 0, .int .i64 0, .slice none 0 0, .int .i64 0, .int .i64 0, .int .i64 0, .int .i64 0, .bool false, .int .i64 0] 93))) (by simp))
  go_loop [7, 16] (fun v j => ∃ (k : Nat) (n : Int), k ≤ xs.length ∧ j = .int .i64 k ∧ v = .int .i64 n) (fun _ j => xs.length - (intOf j).toNat)
  case atStart => exact ⟨0, 0, by omega, rfl, rfl⟩
  case round =>
    obtain ⟨k, n, hk, rfl, rfl⟩ := hrel
    by_cases hkn : k < xs.length
    · have hc := HXA.out.get k hkn
      generalize xs.getD k 0 = x at hc
      go_wp2_with fail
      go_round
      case rel => exact ⟨k + 1, _, by omega, by go_num, rfl⟩
      case measure => simp [intOf]; omega
    · obtain rfl : k = xs.length := by omega
      go_wp2_with fail
      go_loop [] True 0
      case atStart => trivial
      case round =>
        go_wp2_with fail
        go_loop [48] (fun j => ∃ k : Nat, k ≤ xs.length ∧ j = .int .i64 k) (fun j => xs.length - (intOf j).toNat)
        case atStart => exact ⟨0, by omega, rfl⟩
        case round =>
          obtain ⟨k, hk, rfl⟩ := hrel
          by_cases hkn : k < xs.length
          · have hc := HXA.out.get k hkn
            generalize xs.getD k 0 = x at hc
            go_wp2_with fail
            go_round
            case rel => exact ⟨k + 1, by omega, by go_num⟩
            case measure => simp [intOf]; omega
          · obtain rfl : k = xs.length := by omega
            have hmn : min (0 : Int) ((xs.length : Int) - 1) = 0 := by omega
            go_wp2_with fail
            go_loopw [] (fun wx => wx = (w.alloc (.cells #[.int .i64 1, .int .i64 0, .int .i64 0, .slice none 0 0, .int .i64 0, .int .i64 0, .int .i64 0, .int .i64 0, .bool false, .int .i64 0] 93)).alloc (.cells #[.int .i64 0, .int .i64 0, .int .i64 0, .slice none 0 0, .int .i64 0, .int .i64 0, .int .i64 0, .int .i64 0, .bool false, .int .i64 0] 93)) (fun _ => 0)
            case atStart => rfl
            case round =>
              subst hrel
              go_wp2_with fail
              go_quiet (fail)
              change Exit.then _ _ _ _ (((w.drewN nq).alloc (.cells #[.int .i64 1, .int .i64 0, .int .i64 0, .slice none 0 0, .int .i64 0, .int .i64 0, .int .i64 0, .int .i64 0, .bool false, .int .i64 0] 93)).alloc (.cells #[.int .i64 0, .int .i64 0, .int .i64 0, .slice none 0 0, .int .i64 0, .int .i64 0, .int .i64 0, .int .i64 0, .bool false, .int .i64 0] 93))
              generalize hwq : w.drewN nq = wq
              have hsz : w.heap.size = wq.heap.size := by rw [← hwq]; rfl
              rw [hsz]
              have HK := Bx.mk (show Kp [] w wq from by rw [← hwq]; exact Kp.drewN _ _ _)
              clear hwq hsz
              go_wp2_with fail
              refine bodyPost_ret (v := .agg #[.int .i64 1, .int .i64 0, .int .i64 0, .slice none 0 0, .int .i64 0, .int .i64 0, .int .i64 0, .int .i64 0, .bool false, .int .i64 0]) (by simp [results, Tryz.results49, go_sem]) rfl ?_
              exact ⟨rfl, (HK.out.trans (Kp.alloc _ _ _)).trans (Kp.alloc _ _ _)⟩

set_option maxRecDepth 100000 in
set_option maxHeartbeats 4000000 in
/-- (*writer).channel: as it stands. -/
theorem specChannel (B W g cap bps : Nat) (xs : List Int) (s : List UInt8 × List Bool) (w : World) (h : SW B W s w) (hx : IntAt g xs w) (hl : xs.length ≤ 256) (hb : bps ≤ 62) (hc : cnt s ≤ 70000000000000) :
    Calls Tryz.prog 48 #[.pointer (some ⟨W, 0, none⟩), .slice (some ⟨g, 0, none⟩) xs.length cap, .int .i64 bps, wayV] w fun e w' => e = .returned (.tuple #[]) ∧ SW B W (wrB s (subHead 1 0 ++ verbB xs bps)) w' ∧ Fr B [W] w w' := by
  have HX := Bx.mk hx; clear hx
  have HL := Bx.mk hc; clear hc
  unfold wayV
  generalize hO : (Obj.cells #[.int .i64 1, .int .i64 0, .int .i64 0, .slice none 0 0, .int .i64 0, .int .i64 0, .int .i64 0, .int .i64 0, .bool false, .int .i64 0] 93 (0, 0)) = O
  have HA : Bx (SS B W w.heap.size O w s (w.alloc O)) := ⟨h.kp (Kp.alloc [] _ _) (by simp), (((Kp.alloc [] w O).fr h.baseLe (by simp)).mono (Nat.le_refl _) (by simp)), heap_alloc_new _ _⟩
  have HXA := Bx.mk (HX.out.kp (Kp.alloc [] w O) (by simp))
  have HWN : Bx (w.heap.size ∉ [W]) := ⟨by have := h.len; simp; omega⟩
  subst hO
  clear h HX
  go_enter Tryz.func48, Tryz.ntmps48
  go_wp2_with fail
  refine (swordI B W 0 1 s _ HA.out.1 (by omega) (by omega) (by have := HL.out; omega)).mono ?_
  rintro e w1 ⟨rfl, hb1, hf1, _⟩
  have H1 := Bx.mk (HA.out.next (by decide) HWN.out hb1 hf1)
  have HGW : Bx (g ∉ [W]) := ⟨by obtain ⟨v, hv, _⟩ := HA.out.1; exact HXA.out.ne hv (by decide)⟩
  have HX1 := Bx.mk (HXA.out.fr hf1 HGW.out)
  clear hb1 hf1 HA HXA
  have c0 := Lib.cell_of_heap H1.out.2.2 0
  have c1 := Lib.cell_of_heap H1.out.2.2 1
  have c2 := Lib.cell_of_heap H1.out.2.2 2
  have hwl := Lib.lt_of_heap H1.out.2.2
  simp only [List.getElem?_toArray, List.getElem?_cons_zero, List.getElem?_cons_succ] at c0 c1 c2
  go_wp2_with fail
  clear c0 c1 c2 hwl
  have H2 := Bx.mk (H1.out.kp (Kp.alloc [] w1 (.cells #[.int .i64 0, .int .i64 1, .int .i64 8, .int .i64 31] 3)))
  have HX2 := Bx.mk (HX1.out.kp (Kp.alloc [] w1 (.cells #[.int .i64 0, .int .i64 1, .int .i64 8, .int .i64 31] 3)) (by simp))
  refine (swordI B W 1 6 _ _ H2.out.1 (by omega) (by omega) (by have := HL.out; rw [cnt_wrB, bitsN_length, show (6 : Int).toNat = 6 from rfl, show (1 : Int).toNat = 1 from rfl]; omega)).mono ?_
  rintro e w2 ⟨rfl, hb1, hf1, _⟩
  have H3 := Bx.mk (H2.out.next (by decide) HWN.out hb1 hf1)
  have HX3 := Bx.mk (HX2.out.fr hf1 HGW.out)
  clear hb1 hf1 H2 HX2 H1 HX1
  have c2 := Lib.cell_of_heap H3.out.2.2 2
  simp only [List.getElem?_toArray, List.getElem?_cons_zero, List.getElem?_cons_succ] at c2
  go_wp2_with fail
  clear c2
  refine (swordI B W 0 1 _ _ H3.out.1 (by omega) (by omega) (by have := HL.out; simp only [cnt_wrB, bitsN_length]; rw [show (6 : Int).toNat = 6 from rfl, show (1 : Int).toNat = 1 from rfl]; omega)).mono ?_
  rintro e w3 ⟨rfl, hb1, hf1, _⟩
  have h4 := H3.out.next (by decide) HWN.out hb1 hf1
  have HX4 := Bx.mk (HX3.out.fr hf1 HGW.out)
  rw [← wrB_append, ← wrB_append, show bitsN 0 (1 : Int).toNat ++ (bitsN 1 (6 : Int).toNat ++ bitsN 0 (1 : Int).toNat) = subHead 1 0 from rfl] at h4
  have H4 := Bx.mk h4
  clear hb1 hf1 h4 H3 HX3
  have HCW : Bx (cnt (wrB s (subHead 1 0)) ≤ 70000000000008) := by
    have := HL.out
    constructor
    rw [cnt_wrB]
    have h3 : (subHead 1 0).length = 8 := by simp [subHead, bitsN_length]
    rw [h3]; omega
  have c0 := Lib.cell_of_heap H4.out.2.2 0
  have c2 := Lib.cell_of_heap H4.out.2.2 2
  simp only [List.getElem?_toArray, List.getElem?_cons_zero, List.getElem?_cons_succ] at c0 c2
  go_wp2_with fail
  go_loopw [75] (fun j wx => ∃ k : Nat, k ≤ xs.length ∧ j = .int .i64 k ∧ SS B W w.heap.size (.cells #[.int .i64 1, .int .i64 0, .int .i64 0, .slice none 0 0, .int .i64 0, .int .i64 0, .int .i64 0, .int .i64 0, .bool false, .int .i64 0] 93 (0, 0)) w (wrB s (subHead 1 0 ++ verbB (xs.take k) bps)) wx ∧ IntAt g xs wx) (fun j _ => xs.length - (intOf j).toNat)
  case atStart => exact ⟨0, by omega, rfl, by simpa [verbB] using H4.out, HX4.out⟩
  case round =>
    clear H4 HX4 c0 c2
    obtain ⟨k, hk, rfl, hss, hx⟩ := hrel
    have HS := Bx.mk hss
    have HX := Bx.mk hx
    clear hss hx
    by_cases hkn : k < xs.length
    · have hcell := HX.out.get k hkn
      have HT := Bx.mk (verbB_take xs bps k hkn)
      have HN : Bx (cnt (wrB s (subHead 1 0 ++ verbB (xs.take k) bps)) + bps ≤ 70368744177664) := by
        have h1 := HCW.out
        have h2 : k * bps ≤ 256 * 62 := Nat.mul_le_mul (by omega) hb
        constructor
        rw [wrB_append, cnt_wrB _ (verbB _ _), verbB_length, List.length_take_of_le (by omega)]
        omega
      have HKN := Bx.mk hkn
      generalize xs.getD k 0 = x at hcell HT
      have c2 := Lib.cell_of_heap HS.out.2.2 2
      simp only [List.getElem?_toArray, List.getElem?_cons_zero, List.getElem?_cons_succ] at c2
      go_wp2_with fail
      refine (swordI B W x bps _ _ HS.out.1 (by omega) (by omega) (by have := HN.out; rw [Int.toNat_natCast]; omega)).mono ?_
      rintro e w4 ⟨rfl, hb1, hf1, _⟩
      have H5 := HS.out.next (by decide) HWN.out hb1 hf1
      rw [Int.toNat_natCast, ← wrB_append, List.append_assoc, ← HT.out] at H5
      have H6 := Bx.mk H5
      have HX6 := Bx.mk (HX.out.fr hf1 HGW.out)
      clear hb1 hf1 H5 c2
      go_wp2_with fail
      go_roundw
      case rel => exact ⟨k + 1, HKN.out, by go_num, H6.out, HX6.out⟩
      case measure =>
        have := HKN.out
        simp [intOf]; omega
    · obtain rfl : k = xs.length := by omega
      rw [List.take_length] at HS
      go_wp2_with fail
      refine bodyPost_ret (v := .tuple #[]) (results_none rfl _ _ _) rfl ?_
      exact ⟨rfl, HS.out.1, HS.out.2.1⟩
end Go.Proofs.YtemcpcgcnjahjaaGreatDoor
