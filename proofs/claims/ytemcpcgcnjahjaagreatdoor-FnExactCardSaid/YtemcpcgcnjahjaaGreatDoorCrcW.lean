/-
  The tables of the two sums, and the sums themselves as writers.
-/
import Derived.Test.YtemcpcgcnjahjaaGreatDoorBase
import Derived.Test.YtemcpcgcnjahjaaGreatDoorBits
namespace Go.Proofs.YtemcpcgcnjahjaaGreatDoor
open Go.RowKit

/-- The table's cells when i of them are made. -/
def arr16 (i : Nat) : Array Value := ((List.range 256).map fun j => Value.int .u16 (if j < i then ((tab16 j).toNat : Int) else 0)).toArray
theorem arr16_set (i : Nat) (h : i < 256) : (arr16 i).setIfInBounds i (.int .u16 ((tab16 i).toNat : Int)) = arr16 (i + 1) := by
  unfold arr16
  rw [List.setIfInBounds_toArray]
  congr 1
  apply List.ext_getElem?
  intro j
  rw [List.getElem?_set]
  by_cases hj : j < 256
  · by_cases hij : i = j
    · subst hij
      simp [h]
    · simp only [hij, if_false]
      simp only [List.getElem?_map, List.getElem?_range hj, Option.map_some]
      have : (j < i + 1) = (j < i) := by simp; omega
      simp only [this]
  · have : ¬ i = j := by omega
    simp [this, hj]

set_option maxRecDepth 100000 in
set_option maxHeartbeats 1000000 in
/-- crc16.makeTable(IBM). -/
theorem mkTab16 (w : World) : Calls Tryz.prog 60 #[.int .u16 32773] w fun e w' => e = .returned (.pointer (some ⟨w.heap.size, 0, none⟩)) ∧ w'.heap[w.heap.size]? = some (.cells (arr16 256) 245 (0, 0)) ∧ Kp [] w w' := by
  go_enter Tryz.func60, Tryz.ntmps60
  go_wp2_with fail
  go_loopw [7] (fun v wx => ∃ i : Nat, i ≤ 256 ∧ v = .int .i64 i ∧ wx.heap[w.heap.size]? = some (.cells (arr16 i) 245 (0, 0)) ∧ Kp [] w wx) (fun v _ => 256 - (intOf v).toNat)
  case atStart =>
    refine ⟨0, by omega, rfl, ?_, Kp.alloc _ _ _⟩
    rw [heap_alloc_new]
    exact congrArg some (by kernel_rfl)
  case round =>
    obtain ⟨i, hi, rfl, hcells, hkp⟩ := hrel
    have K := Lib.hid hkp; clear hkp
    by_cases h : i < 256
    · have c0 := Lib.cell_of_heap hcells i
      have z0 := Lib.frozen_of_heap hcells i
      have hz : (arr16 i)[i]? = some (.int .u16 0) := by
        unfold arr16
        simp [h]
      rw [hz] at c0
      have C := Lib.hid hcells; clear hcells hz
      have HT : Hid (stepsP 0x8005#16 8 (BitVec.ofNat 16 i <<< 8) = tab16 i) := rfl
      have e8 : Hid ((i : Int) * (256 : Int) = (((BitVec.ofNat 16 i <<< 8).toNat : Nat) : Int)) := by
        show _ = _
        rw [BitVec.toNat_shiftLeft, Nat.shiftLeft_eq, BitVec.toNat_ofNat]; omega
      go_wp2_with fail
      go_loop [4, 5] (fun c j => ∃ k : Nat, k ≤ 8 ∧ j = .int .i64 k ∧ c = .int .u16 (((stepsP 0x8005#16 k (BitVec.ofNat 16 i <<< 8)).toNat : Nat) : Int)) (fun _ j => 8 - (intOf j).toNat)
      case atStart => exact ⟨0, by omega, rfl, by rw [e8.out]; rfl⟩
      case round =>
        obtain ⟨k, hk, rfl, rfl⟩ := hrel
        by_cases hk8 : k < 8
        · have HS : Hid (stepsP 0x8005#16 (k + 1) (BitVec.ofNat 16 i <<< 8) = stepP 0x8005#16 (stepsP 0x8005#16 k (BitVec.ofNat 16 i <<< 8))) := stepsP_succ' _ _ _
          generalize stepsP 0x8005#16 k (BitVec.ofNat 16 i <<< 8) = x at HS
          have t1 := u16_top x
          have t2 := u16_shl1 x
          have t3 := u16_xorB (x <<< 1) 0x8005#16
          have t4 : ((0x8005#16).toNat : Int) = 32773 := rfl
          rw [t4] at t3
          clear t4
          have hx := x.isLt
          cases hm : x.msb with
          | true =>
            rw [hm] at t1
            have HN : Hid (stepP 0x8005#16 x = (x <<< 1) ^^^ 0x8005#16) := by show stepP _ _ = _; unfold stepP; rw [hm]; rfl
            clear hm
            rw [← t2] at t3
            have T3 := Lib.hid t3
            clear t2 t3
            go_wp2_with fail
            go_round
            case rel => exact ⟨k + 1, by omega, by go_num, by rw [HS.out, HN.out]; rw [IntKind.wrap_u16, T3.out]⟩
            case measure => simp [intOf]; omega
          | false =>
            rw [hm] at t1
            have HN : Hid (stepP 0x8005#16 x = (x <<< 1)) := by show stepP _ _ = _; unfold stepP; rw [hm]; rfl
            clear hm
            clear t3
            have T2 := Lib.hid t2
            clear t2
            go_wp2_with fail
            go_round
            case rel => exact ⟨k + 1, by omega, by go_num, by rw [HS.out, HN.out]; rw [IntKind.wrap_u16, T2.out]⟩
            case measure => simp [intOf]; omega
        · obtain rfl : k = 8 := by omega
          have HT2 : Hid ((stepsP 0x8005#16 8 (BitVec.ofNat 16 i <<< 8)) = tab16 i) := rfl
          generalize stepsP 0x8005#16 8 (BitVec.ofNat 16 i <<< 8) = x at HT2
          clear HT
          go_wp2_with fail
          go_roundw
          case rel =>
            refine ⟨i + 1, by omega, by go_num, ?_, K.out.new (Kp.setCell (S := [w.heap.size]) _ _ _ (by simp)) (by simp)⟩
            rw [heap_set C.out, HT2.out, arr16_set i h]
          case measure => simp [intOf]; omega
    · obtain rfl : i = 256 := by omega
      have C := Lib.hid hcells; clear hcells
      go_wp2_with fail
      go_ret
      exact ⟨rfl, C.out, K.out⟩

/-- The table's cells when i of them are made. -/
def arr8 (i : Nat) : Array Value := ((List.range 256).map fun j => Value.int .u8 (if j < i then ((tab8 j).toNat : Int) else 0)).toArray
theorem arr8_set (i : Nat) (h : i < 256) : (arr8 i).setIfInBounds i (.int .u8 ((tab8 i).toNat : Int)) = arr8 (i + 1) := by
  unfold arr8
  rw [List.setIfInBounds_toArray]
  congr 1
  apply List.ext_getElem?
  intro j
  rw [List.getElem?_set]
  by_cases hj : j < 256
  · by_cases hij : i = j
    · subst hij
      simp [h]
    · simp only [hij, if_false]
      simp only [List.getElem?_map, List.getElem?_range hj, Option.map_some]
      have : (j < i + 1) = (j < i) := by simp; omega
      simp only [this]
  · have : ¬ i = j := by omega
    simp [this, hj]

set_option maxRecDepth 100000 in
set_option maxHeartbeats 1000000 in
/-- crc8.makeTable(ATM). -/
theorem mkTab8 (w : World) : Calls Tryz.prog 95 #[.int .u8 7] w fun e w' => e = .returned (.pointer (some ⟨w.heap.size, 0, none⟩)) ∧ w'.heap[w.heap.size]? = some (.cells (arr8 256) 265 (0, 0)) ∧ Kp [] w w' := by
  go_enter Tryz.func95, Tryz.ntmps95
  go_wp2_with fail
  go_loopw [7] (fun v wx => ∃ i : Nat, i ≤ 256 ∧ v = .int .i64 i ∧ wx.heap[w.heap.size]? = some (.cells (arr8 i) 265 (0, 0)) ∧ Kp [] w wx) (fun v _ => 256 - (intOf v).toNat)
  case atStart =>
    refine ⟨0, by omega, rfl, ?_, Kp.alloc _ _ _⟩
    rw [heap_alloc_new]
    exact congrArg some (by kernel_rfl)
  case round =>
    obtain ⟨i, hi, rfl, hcells, hkp⟩ := hrel
    have K := Lib.hid hkp; clear hkp
    by_cases h : i < 256
    · have c0 := Lib.cell_of_heap hcells i
      have z0 := Lib.frozen_of_heap hcells i
      have hz : (arr8 i)[i]? = some (.int .u8 0) := by
        unfold arr8
        simp [h]
      rw [hz] at c0
      have C := Lib.hid hcells; clear hcells hz
      have HT : Hid (stepsP 0x07#8 8 (BitVec.ofNat 8 i) = tab8 i) := rfl
      have e8 : Hid ((i : Int) = (((BitVec.ofNat 8 i).toNat : Nat) : Int)) := by
        show _ = _
        rw [BitVec.toNat_ofNat]; omega
      go_wp2_with fail
      go_loop [4, 5] (fun c j => ∃ k : Nat, k ≤ 8 ∧ j = .int .i64 k ∧ c = .int .u8 (((stepsP 0x07#8 k (BitVec.ofNat 8 i)).toNat : Nat) : Int)) (fun _ j => 8 - (intOf j).toNat)
      case atStart => exact ⟨0, by omega, rfl, by rw [e8.out]; rfl⟩
      case round =>
        obtain ⟨k, hk, rfl, rfl⟩ := hrel
        by_cases hk8 : k < 8
        · have HS : Hid (stepsP 0x07#8 (k + 1) (BitVec.ofNat 8 i) = stepP 0x07#8 (stepsP 0x07#8 k (BitVec.ofNat 8 i))) := stepsP_succ' _ _ _
          generalize stepsP 0x07#8 k (BitVec.ofNat 8 i) = x at HS
          have t1 := u8_top x
          have t2 := u8_shl1 x
          have t3 := u8_xorB (x <<< 1) 0x07#8
          have t4 : ((0x07#8).toNat : Int) = 7 := rfl
          rw [t4] at t3
          clear t4
          have hx := x.isLt
          cases hm : x.msb with
          | true =>
            rw [hm] at t1
            have HN : Hid (stepP 0x07#8 x = (x <<< 1) ^^^ 0x07#8) := by show stepP _ _ = _; unfold stepP; rw [hm]; rfl
            clear hm
            rw [← t2] at t3
            have T3 := Lib.hid t3
            clear t2 t3
            go_wp2_with fail
            go_round
            case rel => exact ⟨k + 1, by omega, by go_num, by rw [HS.out, HN.out]; rw [T3.out]⟩
            case measure => simp [intOf]; omega
          | false =>
            rw [hm] at t1
            have HN : Hid (stepP 0x07#8 x = (x <<< 1)) := by show stepP _ _ = _; unfold stepP; rw [hm]; rfl
            clear hm
            clear t3
            have T2 := Lib.hid t2
            clear t2
            go_wp2_with fail
            go_round
            case rel => exact ⟨k + 1, by omega, by go_num, by rw [HS.out, HN.out]; rw [T2.out]⟩
            case measure => simp [intOf]; omega
        · obtain rfl : k = 8 := by omega
          have HT2 : Hid ((stepsP 0x07#8 8 (BitVec.ofNat 8 i)) = tab8 i) := rfl
          generalize stepsP 0x07#8 8 (BitVec.ofNat 8 i) = x at HT2
          clear HT
          go_wp2_with fail
          go_roundw
          case rel =>
            refine ⟨i + 1, by omega, by go_num, ?_, K.out.new (Kp.setCell (S := [w.heap.size]) _ _ _ (by simp)) (by simp)⟩
            rw [heap_set C.out, HT2.out, arr8_set i h]
          case measure => simp [intOf]; omega
    · obtain rfl : i = 256 := by omega
      have C := Lib.hid hcells; clear hcells
      go_wp2_with fail
      go_ret
      exact ⟨rfl, C.out, K.out⟩

theorem byteCells_get (cs : List UInt8) (i : Nat) (h : i < cs.length) : (Lib.byteCells cs)[i]? = some (.int .u8 ((cs.getD i 0).toNat : Int)) := by
  unfold Lib.byteCells
  rw [List.getElem?_map, List.getElem?_eq_getElem h, List.getD_eq_getElem?_getD, List.getElem?_eq_getElem h]
  rfl

theorem foldl_take {α : Type} (f : α → UInt8 → α) (a : α) (l : List UInt8) (i : Nat) (h : i < l.length) : (l.take (i + 1)).foldl f a = f ((l.take i).foldl f a) (l.getD i 0) := by
  rw [List.take_add_one, List.foldl_append, List.getElem?_eq_getElem h, List.getD_eq_getElem?_getD, List.getElem?_eq_getElem h]
  rfl

set_option maxRecDepth 100000 in
set_option maxHeartbeats 1000000 in
/-- crc16.Update. -/
theorem update16 (c : BitVec 16) (T xb xo n cap : Nat) (cs : List UInt8) (w : World) (hT : w.heap[T]? = some (.cells (arr16 256) 245 (0, 0))) (hn : cs.length = n) (hn2 : n ≤ 70368744177664)
    (hc : ∀ j v, (Lib.byteCells cs)[j]? = some v → w.cell? ⟨xb, xo + j, none⟩ = some v) :
    Calls Tryz.prog 189 #[.int .u16 (c.toNat : Int), .pointer (some ⟨T, 0, none⟩), .slice (some ⟨xb, xo, none⟩) n cap] w fun e w' => e = .returned (.int .u16 ((cs.foldl upd16 c).toNat : Int)) ∧ w' = w := by
  have HT := Lib.hid hT; clear hT
  have HC := Lib.hid hc; clear hc
  have HN := Lib.hid hn; clear hn
  go_enter Tryz.func189, Tryz.ntmps189
  go_wp2_with fail
  go_loop [0, 11] (fun v j => ∃ i : Nat, i ≤ n ∧ j = .int .i64 i ∧ v = .int .u16 ((((cs.take i).foldl upd16 c).toNat : Nat) : Int)) (fun _ j => n - (intOf j).toNat)
  case atStart => exact ⟨0, by omega, rfl, by simp⟩
  case round =>
    obtain ⟨i, hi, rfl, rfl⟩ := hrel
    by_cases h : i < n
    · have hl : i < cs.length := by rw [HN.out]; exact h
      have HF := Lib.hid (foldl_take upd16 c cs i hl)
      have hcell := HC.out i _ (byteCells_get cs i hl)
      generalize (cs.take i).foldl upd16 c = d at HF
      have hx := (cs.getD i 0).toNat_lt
      have HU := Lib.hid (upd16_tab d (cs.getD i 0))
      clear hl
      generalize cs.getD i 0 = x at HF hcell hx HU
      have hd := d.isLt
      have e1 : Hid (bits .xor .u16 ((d.toNat : Int) / 256) (x.toNat : Int) = (((d.toNat / 256 ^^^ x.toNat : Nat)) : Int)) := by
        have := u16_xor_nat (d.toNat / 256) x.toNat (by omega) (by omega)
        exact_mod_cast this
      have hix : d.toNat / 256 ^^^ x.toNat < 256 := Nat.xor_lt_two_pow (n := 8) (by omega) (by omega)
      have hb0 : 0 ≤ bits .xor .u16 ((d.toNat : Int) / 256) (x.toNat : Int) := by rw [e1.out]; omega
      have hb1 : bits .xor .u16 ((d.toNat : Int) / 256) (x.toNat : Int) < 256 := by rw [e1.out]; omega
      have ht : w.cell? ⟨T, (bits .xor .u16 ((d.toNat : Int) / 256) (x.toNat : Int)).toNat, none⟩ = some (.int .u16 ((tab16 (d.toNat / 256 ^^^ x.toNat)).toNat : Int)) := by
        rw [e1.out, Int.toNat_natCast, Lib.cell_of_heap HT.out]
        unfold arr16
        simp [hix]
      have e2 : Hid (bits .xor .u16 (IntKind.u16.wrap ((d.toNat : Int) * 256)) ((tab16 (d.toNat / 256 ^^^ x.toNat)).toNat : Int) = ((upd16 d x).toNat : Int)) := by
        show _ = _
        rw [IntKind.wrap_u16, u16_shl8, u16_xorB, HU.out]
      clear hix
      go_wp2_with fail
      go_round
      case rel => exact ⟨i + 1, by omega, by go_num, by rw [HF.out, ← e2.out]⟩
      case measure => simp [intOf]; omega
    · obtain rfl : i = n := by omega
      have e : Hid (cs.take i = cs) := by show _ = _; rw [List.take_of_length_le (by rw [HN.out]; exact Nat.le_refl _)]
      go_wp2_with fail
      go_ret
      exact ⟨by rw [e.out]; rfl, rfl⟩
set_option maxRecDepth 100000 in
set_option maxHeartbeats 1000000 in
/-- crc8.Update. -/
theorem update8 (c : BitVec 8) (T xb xo n cap : Nat) (cs : List UInt8) (w : World) (hT : w.heap[T]? = some (.cells (arr8 256) 265 (0, 0))) (hn : cs.length = n) (hn2 : n ≤ 70368744177664)
    (hc : ∀ j v, (Lib.byteCells cs)[j]? = some v → w.cell? ⟨xb, xo + j, none⟩ = some v) :
    Calls Tryz.prog 196 #[.int .u8 (c.toNat : Int), .pointer (some ⟨T, 0, none⟩), .slice (some ⟨xb, xo, none⟩) n cap] w fun e w' => e = .returned (.int .u8 ((cs.foldl upd8 c).toNat : Int)) ∧ w' = w := by
  have HT := Lib.hid hT; clear hT
  have HC := Lib.hid hc; clear hc
  have HN := Lib.hid hn; clear hn
  go_enter Tryz.func196, Tryz.ntmps196
  go_wp2_with fail
  go_loop [0, 11] (fun v j => ∃ i : Nat, i ≤ n ∧ j = .int .i64 i ∧ v = .int .u8 ((((cs.take i).foldl upd8 c).toNat : Nat) : Int)) (fun _ j => n - (intOf j).toNat)
  case atStart => exact ⟨0, by omega, rfl, by simp⟩
  case round =>
    obtain ⟨i, hi, rfl, rfl⟩ := hrel
    by_cases h : i < n
    · have hl : i < cs.length := by rw [HN.out]; exact h
      have HF := Lib.hid (foldl_take upd8 c cs i hl)
      have hcell := HC.out i _ (byteCells_get cs i hl)
      generalize (cs.take i).foldl upd8 c = d at HF
      have hx := (cs.getD i 0).toNat_lt
      have HU := Lib.hid (upd8_tab d (cs.getD i 0))
      clear hl
      generalize cs.getD i 0 = x at HF hcell hx HU
      have hd := d.isLt
      have e1 : Hid (bits .xor .u8 (d.toNat : Int) (x.toNat : Int) = (((d.toNat ^^^ x.toNat : Nat)) : Int)) := u8_xor_nat d.toNat x.toNat (by omega) (by omega)
      have hix : d.toNat ^^^ x.toNat < 256 := Nat.xor_lt_two_pow (n := 8) (by omega) (by omega)
      have hb0 : 0 ≤ bits .xor .u8 (d.toNat : Int) (x.toNat : Int) := by rw [e1.out]; omega
      have hb1 : bits .xor .u8 (d.toNat : Int) (x.toNat : Int) < 256 := by rw [e1.out]; omega
      have ht : w.cell? ⟨T, (bits .xor .u8 (d.toNat : Int) (x.toNat : Int)).toNat, none⟩ = some (.int .u8 ((tab8 (d.toNat ^^^ x.toNat)).toNat : Int)) := by
        rw [e1.out, Int.toNat_natCast, Lib.cell_of_heap HT.out]
        unfold arr8
        simp [hix]
      clear hix
      go_wp2_with fail
      go_round
      case rel => exact ⟨i + 1, by omega, by go_num, by rw [HF.out, HU.out]⟩
      case measure => simp [intOf]; omega
    · obtain rfl : i = n := by omega
      have e : Hid (cs.take i = cs) := by show _ = _; rw [List.take_of_length_le (by rw [HN.out]; exact Nat.le_refl _)]
      go_wp2_with fail
      go_ret
      exact ⟨by rw [e.out]; rfl, rfl⟩

end Go.Proofs.YtemcpcgcnjahjaaGreatDoor
