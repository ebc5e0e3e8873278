/-
  The two sums as writers.
-/
import Derived.Test.YtemcpcgcnjahjaaGreatDoorCrcW
namespace Go.Proofs.YtemcpcgcnjahjaaGreatDoor
open Go.RowKit

/-- A crc16 digest in block D over its table in block T. -/
def D16 (D T : Nat) (c : BitVec 16) (w : World) : Prop :=
  w.heap[D]? = some (.cells #[.int .u16 (c.toNat : Int), .pointer (some ⟨T, 0, none⟩)] 243 (0, 0)) ∧ w.heap[T]? = some (.cells (arr16 256) 245 (0, 0)) ∧ D ≠ T
def D8 (D T : Nat) (c : BitVec 8) (w : World) : Prop :=
  w.heap[D]? = some (.cells #[.int .u8 (c.toNat : Int), .pointer (some ⟨T, 0, none⟩)] 263 (0, 0)) ∧ w.heap[T]? = some (.cells (arr8 256) 265 (0, 0)) ∧ D ≠ T

set_option maxRecDepth 100000 in
set_option maxHeartbeats 1000000 in
/-- (*crc16.digest).Write. -/
theorem write16 (D T : Nat) (c : BitVec 16) (xb xo n cap : Nat) (cs : List UInt8) (w : World) (hD : D16 D T c w) (hn : cs.length = n) (hn2 : n ≤ 70368744177664)
    (hc : ∀ j v, (Lib.byteCells cs)[j]? = some v → w.cell? ⟨xb, xo + j, none⟩ = some v) :
    Calls Tryz.prog 188 #[.pointer (some ⟨D, 0, none⟩), .slice (some ⟨xb, xo, none⟩) n cap] w fun e w' => e = .returned (.tuple #[.int .i64 n, .nilIface]) ∧ D16 D T (cs.foldl upd16 c) w' ∧ Kp [D] w w' := by
  obtain ⟨hd, hT, hne⟩ := hD
  have c0 := Lib.cell_of_heap hd 0
  have c1 := Lib.cell_of_heap hd 1
  have z0 := Lib.frozen_of_heap hd 0
  simp only [List.getElem?_toArray, List.getElem?_cons_zero, List.getElem?_cons_succ] at c0 c1
  have HD := Lib.hid hd; clear hd
  have HT := Lib.hid hT; clear hT
  have HC := Lib.hid hc; clear hc
  have HN := Lib.hid hn; clear hn
  have HM := Lib.hid hn2; clear hn2
  have HE := Lib.hid hne; clear hne
  go_enter Tryz.func188, Tryz.ntmps188
  go_wp2_with fail
  go_region_with (go_at_call 189; refine (update16 c T xb xo n cap cs w.drew HT.out HN.out HM.out HC.out).mono ?_; rintro e w' ⟨rfl, rfl⟩)
  all_goals
    go_wp2_with fail
    go_ret2
    refine ⟨rfl, ⟨?_, heap_set_other HT.out (Ne.symm HE.out), HE.out⟩, (Kp.setCell _ _ _ (by simp)).trans (Kp.drew _ _)⟩
    exact (heap_set HD.out)

set_option maxRecDepth 100000 in
set_option maxHeartbeats 1000000 in
/-- (*crc8.digest).Write. -/
theorem write8 (D T : Nat) (c : BitVec 8) (xb xo n cap : Nat) (cs : List UInt8) (w : World) (hD : D8 D T c w) (hn : cs.length = n) (hn2 : n ≤ 70368744177664)
    (hc : ∀ j v, (Lib.byteCells cs)[j]? = some v → w.cell? ⟨xb, xo + j, none⟩ = some v) :
    Calls Tryz.prog 195 #[.pointer (some ⟨D, 0, none⟩), .slice (some ⟨xb, xo, none⟩) n cap] w fun e w' => e = .returned (.tuple #[.int .i64 n, .nilIface]) ∧ D8 D T (cs.foldl upd8 c) w' ∧ Kp [D] w w' := by
  obtain ⟨hd, hT, hne⟩ := hD
  have c0 := Lib.cell_of_heap hd 0
  have c1 := Lib.cell_of_heap hd 1
  have z0 := Lib.frozen_of_heap hd 0
  simp only [List.getElem?_toArray, List.getElem?_cons_zero, List.getElem?_cons_succ] at c0 c1
  have HD := Lib.hid hd; clear hd
  have HT := Lib.hid hT; clear hT
  have HC := Lib.hid hc; clear hc
  have HN := Lib.hid hn; clear hn
  have HM := Lib.hid hn2; clear hn2
  have HE := Lib.hid hne; clear hne
  go_enter Tryz.func195, Tryz.ntmps195
  go_wp2_with fail
  go_region_with (go_at_call 196; refine (update8 c T xb xo n cap cs w.drew HT.out HN.out HM.out HC.out).mono ?_; rintro e w' ⟨rfl, rfl⟩)
  all_goals
    go_wp2_with fail
    go_ret2
    refine ⟨rfl, ⟨?_, heap_set_other HT.out (Ne.symm HE.out), HE.out⟩, (Kp.setCell _ _ _ (by simp)).trans (Kp.drew _ _)⟩
    exact (heap_set HD.out)

set_option maxHeartbeats 400000 in
/-- (*crc16.digest).Sum16. -/
theorem sum16 (D T : Nat) (c : BitVec 16) (w : World) (hD : D16 D T c w) : Calls Tryz.prog 187 #[.pointer (some ⟨D, 0, none⟩)] w fun e w' => e = .returned (.int .u16 (c.toNat : Int)) ∧ w' = w := by
  obtain ⟨hd, -, -⟩ := hD
  have c0 := Lib.cell_of_heap hd 0
  simp only [List.getElem?_toArray, List.getElem?_cons_zero] at c0
  clear hd
  go_enter Tryz.func187, Tryz.ntmps187
  go_wp2_with fail
  go_ret
  exact ⟨rfl, rfl⟩

set_option maxHeartbeats 400000 in
/-- (*crc8.digest).Sum8. -/
theorem sum8 (D T : Nat) (c : BitVec 8) (w : World) (hD : D8 D T c w) : Calls Tryz.prog 194 #[.pointer (some ⟨D, 0, none⟩)] w fun e w' => e = .returned (.int .u8 (c.toNat : Int)) ∧ w' = w := by
  obtain ⟨hd, -, -⟩ := hD
  have c0 := Lib.cell_of_heap hd 0
  simp only [List.getElem?_toArray, List.getElem?_cons_zero] at c0
  clear hd
  go_enter Tryz.func194, Tryz.ntmps194
  go_wp2_with fail
  go_ret
  exact ⟨rfl, rfl⟩

set_option maxHeartbeats 400000 in
theorem new16 (T : Nat) (w : World) : Calls Tryz.prog 59 #[.pointer (some ⟨T, 0, none⟩)] w fun e w' => e = .returned (.iface 241 (.pointer (some ⟨w.heap.size, 0, none⟩))) ∧ w' = w.alloc (.cells #[.int .u16 0, .pointer (some ⟨T, 0, none⟩)] 243) := by
  go_enter Tryz.func59, Tryz.ntmps59
  go_wp2_with fail
  go_ret
  exact ⟨rfl, rfl⟩
set_option maxHeartbeats 400000 in
theorem new8 (T : Nat) (w : World) : Calls Tryz.prog 94 #[.pointer (some ⟨T, 0, none⟩)] w fun e w' => e = .returned (.iface 261 (.pointer (some ⟨w.heap.size, 0, none⟩))) ∧ w' = w.alloc (.cells #[.int .u8 0, .pointer (some ⟨T, 0, none⟩)] 263) := by
  go_enter Tryz.func94, Tryz.ntmps94
  go_wp2_with fail
  go_ret
  exact ⟨rfl, rfl⟩

set_option maxHeartbeats 400000 in
/-- crc16.NewIBM. -/
theorem newIBM (w : World) : Calls Tryz.prog 33 #[] w fun e w' => ∃ D T, e = .returned (.iface 241 (.pointer (some ⟨D, 0, none⟩))) ∧ w.heap.size ≤ D ∧ w.heap.size ≤ T ∧ D16 D T 0#16 w' ∧ Kp [] w w' := by
  go_enter Tryz.func33, Tryz.ntmps33
  go_wp2_with fail
  refine (mkTab16 w).mono ?_
  rintro e w1 ⟨rfl, h1, k1⟩
  have K1 := Lib.hid k1; clear k1
  have H1 := Lib.hid h1; clear h1
  go_wp2_with fail
  refine (new16 _ _).mono ?_
  rintro e w2 ⟨rfl, rfl⟩
  go_wp2_with fail
  go_ret
  have hs := K1.out.size
  have hlt := Lib.lt_of_heap H1.out
  exact ⟨w1.heap.size, w.heap.size, rfl, hs, Nat.le_refl _, ⟨heap_alloc_new _ _, heap_alloc H1.out, by omega⟩, K1.out.trans (Kp.alloc _ _ _)⟩

set_option maxHeartbeats 400000 in
/-- crc8.NewATM. -/
theorem newATM (w : World) : Calls Tryz.prog 61 #[] w fun e w' => ∃ D T, e = .returned (.iface 261 (.pointer (some ⟨D, 0, none⟩))) ∧ w.heap.size ≤ D ∧ w.heap.size ≤ T ∧ D8 D T 0#8 w' ∧ Kp [] w w' := by
  go_enter Tryz.func61, Tryz.ntmps61
  go_wp2_with fail
  refine (mkTab8 w).mono ?_
  rintro e w1 ⟨rfl, h1, k1⟩
  have K1 := Lib.hid k1; clear k1
  have H1 := Lib.hid h1; clear h1
  go_wp2_with fail
  refine (new8 _ _).mono ?_
  rintro e w2 ⟨rfl, rfl⟩
  go_wp2_with fail
  go_ret
  have hs := K1.out.size
  have hlt := Lib.lt_of_heap H1.out
  exact ⟨w1.heap.size, w.heap.size, rfl, hs, Nat.le_refl _, ⟨heap_alloc_new _ _, heap_alloc H1.out, by omega⟩, K1.out.trans (Kp.alloc _ _ _)⟩

theorem D16.kp {D T : Nat} {c : BitVec 16} {w w' : World} {L : List Nat} (h : D16 D T c w) (k : Kp L w w') (h1 : D ∉ L) (h2 : T ∉ L) : D16 D T c w' := ⟨k.at h.1 h1, k.at h.2.1 h2, h.2.2⟩
theorem D8.kp {D T : Nat} {c : BitVec 8} {w w' : World} {L : List Nat} (h : D8 D T c w) (k : Kp L w w') (h1 : D ∉ L) (h2 : T ∉ L) : D8 D T c w' := ⟨k.at h.1 h1, k.at h.2.1 h2, h.2.2⟩
theorem D16.fr {B D T : Nat} {c : BitVec 16} {w w' : World} {L : List Nat} (h : D16 D T c w) (k : Fr B L w w') (h1 : D ∉ L) (h2 : T ∉ L) : D16 D T c w' := ⟨k.at h.1 h1 (by decide), k.at h.2.1 h2 (by decide), h.2.2⟩
theorem D8.fr {B D T : Nat} {c : BitVec 8} {w w' : World} {L : List Nat} (h : D8 D T c w) (k : Fr B L w w') (h1 : D ∉ L) (h2 : T ∉ L) : D8 D T c w' := ⟨k.at h.1 h1 (by decide), k.at h.2.1 h2 (by decide), h.2.2⟩

end Go.Proofs.YtemcpcgcnjahjaaGreatDoor
