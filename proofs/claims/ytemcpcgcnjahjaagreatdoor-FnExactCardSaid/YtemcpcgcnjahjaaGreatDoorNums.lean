/-
  Numbers of one or two bytes, written to a writer.
-/
import Derived.Test.YtemcpcgcnjahjaaGreatDoorSnk16
namespace Go.Proofs.YtemcpcgcnjahjaaGreatDoor
open Go.RowKit

set_option maxRecDepth 100000 in
set_option maxHeartbeats 1000000 in
/-- numbers.size of uint16. -/
theorem size16 (w : World) : Calls Tryz.prog 79 #[] w fun e w' => e = .returned (.int .i64 2) ∧ w' = w := by
  have h1 : ∀ w, (Op.unary .xor (.int .u16 0)).run Tryz.prog w = .ok (.int .u16 65535) w := fun _ => by kernel_rfl
  go_enter Tryz.func79, Tryz.ntmps79
  go_wp2_with fail
  go_loop [1, 2] (fun n x => (n = .int .i64 0 ∧ x = .int .u16 65535) ∨ (n = .int .i64 1 ∧ x = .int .u16 255) ∨ (n = .int .i64 2 ∧ x = .int .u16 0)) (fun _ x => (intOf x).toNat)
  case atStart => exact .inl ⟨rfl, rfl⟩
  case round =>
    rcases hrel with ⟨rfl, rfl⟩ | ⟨rfl, rfl⟩ | ⟨rfl, rfl⟩
    · go_wp2_with fail
      go_round
      case rel => exact .inr (.inl ⟨rfl, rfl⟩)
      case measure => simp [intOf]
    · go_wp2_with fail
      go_round
      case rel => exact .inr (.inr ⟨rfl, rfl⟩)
      case measure => simp [intOf]
    · go_wp2_with fail
      go_ret
      exact ⟨rfl, rfl⟩

set_option maxRecDepth 100000 in
set_option maxHeartbeats 1000000 in
/-- numbers.size of uint8. -/
theorem size8 (w : World) : Calls Tryz.prog 98 #[] w fun e w' => e = .returned (.int .i64 1) ∧ w' = w := by
  have h1 : ∀ w, (Op.unary .xor (.int .u8 0)).run Tryz.prog w = .ok (.int .u8 255) w := fun _ => by kernel_rfl
  go_enter Tryz.func98, Tryz.ntmps98
  go_wp2_with fail
  go_loop [1, 2] (fun n x => (n = .int .i64 0 ∧ x = .int .u8 255) ∨ (n = .int .i64 1 ∧ x = .int .u8 0)) (fun _ x => (intOf x).toNat)
  case atStart => exact .inl ⟨rfl, rfl⟩
  case round =>
    rcases hrel with ⟨rfl, rfl⟩ | ⟨rfl, rfl⟩
    · go_wp2_with fail
      go_round
      case rel => exact .inr ⟨rfl, rfl⟩
      case measure => simp [intOf]
    · go_wp2_with fail
      go_ret
      exact ⟨rfl, rfl⟩

theorem Src_of {w : World} {g : Nat} {cs : List UInt8} {T : TypeId} {fz : Nat × Nat} (h : w.heap[g]? = some (.cells (Lib.byteCells cs).toArray T fz)) : Src g 0 cs w := by
  intro j v hj
  rw [Nat.zero_add, Lib.cell_of_heap h]
  simpa using hj

set_option maxRecDepth 100000 in
set_option maxHeartbeats 1000000 in
/-- numbers.Write of a uint16. -/
theorem numWrite16 {B : Nat} (σ : Snk B) (x : Nat) (bs : List UInt8) (w : World) (h : σ.I w bs) (hx : x < 65536) (hl : bs.length + 2 ≤ 70368744177664) :
    Calls Tryz.prog 41 #[σ.v, .int .u16 x] w fun e w' => e = .returned .nilIface ∧ σ.I w' (bs ++ [UInt8.ofNat (x / 256), UInt8.ofNat (x % 256)]) ∧ Fr B σ.S w w' := by
  have hmk : ∀ w, (Instr.makeSlice 23 (.int .i64 2) (.int .i64 2)).run Tryz.prog w = .ok (.slice (some ⟨w.heap.size, 0, none⟩) 2 2) (w.alloc (.cells #[.int .u8 0, .int .u8 0] 5)) := fun _ => by kernel_rfl
  have hA := σ.ahead
  have hL := σ.look
  have hE := σ.enter
  have H := Lib.hid h; clear h
  have HL := Lib.hid hl; clear hl
  simp only [Snk.v]
  go_enter Tryz.func41, Tryz.ntmps41
  go_wp2_with fail
  refine (size16 w).mono ?_
  rintro e w1 ⟨rfl, rfl⟩
  go_wp2_with fail
  go_loopw [15] (fun j wx => ∃ k : Nat, k ≤ 2 ∧ j = .int .i64 k ∧ wx.heap[w1.heap.size]? = some (.cells #[.int .u8 (if k = 0 then 0 else (x / 256 : Nat)), .int .u8 (if k ≤ 1 then 0 else (x % 256 : Nat))] 5 (0, 0)) ∧ Kp [] w1 wx) (fun j _ => 2 - (intOf j).toNat)
  case atStart => exact ⟨0, by omega, rfl, heap_alloc_new _ _, Kp.alloc _ _ _⟩
  case round =>
    obtain ⟨k, hk, rfl, hc, hkp⟩ := hrel
    have K := Lib.hid hkp; clear hkp
    have C := Lib.hid hc
    have z0 := Lib.frozen_of_heap hc 0
    have z1 := Lib.frozen_of_heap hc 1
    have c0 := Lib.cell_of_heap hc 0
    have c1 := Lib.cell_of_heap hc 1
    simp only [List.getElem?_toArray, List.getElem?_cons_zero, List.getElem?_cons_succ] at c0 c1
    clear hc
    match k, hk with
    | 0, _ =>
      go_wp2_with fail
      go_roundw
      case rel =>
        refine ⟨1, by omega, rfl, ?_, K.out.new (Kp.setCell (S := [w1.heap.size]) _ _ _ (by simp)) (by simp)⟩
        rw [heap_set C.out]; simp
      case measure => simp [intOf]
    | 1, _ =>
      go_wp2_with fail
      go_roundw
      case rel =>
        refine ⟨2, by omega, rfl, ?_, K.out.new (Kp.setCell (S := [w1.heap.size]) _ _ _ (by simp)) (by simp)⟩
        rw [heap_set C.out]; simp
      case measure => simp [intOf]
    | 2, _ =>
      have HI : Hid (σ.I wr bs) := σ.stable H.out K.out (by simp)
      have HS : Hid (Src w1.heap.size 0 [UInt8.ofNat (x / 256), UInt8.ofNat (x % 256)] wr) := by
        refine Src_of (T := 5) (fz := (0, 0)) ?_
        rw [C.out]
        simp only [Lib.byteCells, List.map_cons, List.map_nil, UInt8.toNat_ofNat']
        rw [Nat.mod_eq_of_lt (by omega : x / 256 < 2 ^ 8), Nat.mod_eq_of_lt (by omega : x % 256 < 2 ^ 8)]
        simp
      have HX : Hid (w1.heap.size ∉ σ.S) := fun hm => by
        have := (σ.live H.out).2 _ hm
        omega
      have HB : Hid (B ≤ w1.heap.size) := (σ.live H.out).1
      go_wp2_with fail
      refine (σ.write w1.heap.size 0 2 2 [UInt8.ofNat (x / 256), UInt8.ofNat (x % 256)] HI.out rfl HX.out HS.out HL.out).mono ?_
      rintro e w2 ⟨rfl, hI, hF⟩
      have HH : Hid (σ.I w2 (bs ++ [UInt8.ofNat (x / 256), UInt8.ofNat (x % 256)]) ∧ Fr B σ.S w1 w2) := ⟨hI, ((K.out.fr HB.out (by simp)).mono (Nat.le_refl _) (by simp)).trans hF⟩
      clear hI hF
      go_wp2_with fail
      go_ret
      exact ⟨rfl, HH.out⟩

set_option maxRecDepth 100000 in
set_option maxHeartbeats 1000000 in
/-- numbers.Write of a uint8. -/
theorem numWrite8 {B : Nat} (σ : Snk B) (x : Nat) (bs : List UInt8) (w : World) (h : σ.I w bs) (hx : x < 256) (hl : bs.length + 1 ≤ 70368744177664) :
    Calls Tryz.prog 69 #[σ.v, .int .u8 x] w fun e w' => e = .returned .nilIface ∧ σ.I w' (bs ++ [UInt8.ofNat x]) ∧ Fr B σ.S w w' := by
  have hmk : ∀ w, (Instr.makeSlice 23 (.int .i64 1) (.int .i64 1)).run Tryz.prog w = .ok (.slice (some ⟨w.heap.size, 0, none⟩) 1 1) (w.alloc (.cells #[.int .u8 0] 5)) := fun _ => by kernel_rfl
  have hA := σ.ahead
  have hL := σ.look
  have hE := σ.enter
  have H := Lib.hid h; clear h
  have HL := Lib.hid hl; clear hl
  simp only [Snk.v]
  go_enter Tryz.func69, Tryz.ntmps69
  go_wp2_with fail
  refine (size8 w).mono ?_
  rintro e w1 ⟨rfl, rfl⟩
  go_wp2_with fail
  go_loopw [15] (fun j wx => ∃ k : Nat, k ≤ 1 ∧ j = .int .i64 k ∧ wx.heap[w1.heap.size]? = some (.cells #[.int .u8 (if k = 0 then 0 else (x : Nat))] 5 (0, 0)) ∧ Kp [] w1 wx) (fun j _ => 1 - (intOf j).toNat)
  case atStart => exact ⟨0, by omega, rfl, heap_alloc_new _ _, Kp.alloc _ _ _⟩
  case round =>
    obtain ⟨k, hk, rfl, hc, hkp⟩ := hrel
    have K := Lib.hid hkp; clear hkp
    have C := Lib.hid hc
    have z0 := Lib.frozen_of_heap hc 0
    have c0 := Lib.cell_of_heap hc 0
    simp only [List.getElem?_toArray, List.getElem?_cons_zero] at c0
    clear hc
    match k, hk with
    | 0, _ =>
      go_wp2_with fail
      go_roundw
      case rel =>
        refine ⟨1, by omega, rfl, ?_, K.out.new (Kp.setCell (S := [w1.heap.size]) _ _ _ (by simp)) (by simp)⟩
        rw [heap_set C.out]; simp
      case measure => simp [intOf]
    | 1, _ =>
      have HI : Hid (σ.I wr bs) := σ.stable H.out K.out (by simp)
      have HS : Hid (Src w1.heap.size 0 [UInt8.ofNat x] wr) := by
        refine Src_of (T := 5) (fz := (0, 0)) ?_
        rw [C.out]
        simp only [Lib.byteCells, List.map_cons, List.map_nil, UInt8.toNat_ofNat']
        rw [Nat.mod_eq_of_lt (by omega : x < 2 ^ 8)]
        simp
      have HX : Hid (w1.heap.size ∉ σ.S) := fun hm => by
        have := (σ.live H.out).2 _ hm
        omega
      have HB : Hid (B ≤ w1.heap.size) := (σ.live H.out).1
      go_wp2_with fail
      refine (σ.write w1.heap.size 0 1 1 [UInt8.ofNat x] HI.out rfl HX.out HS.out HL.out).mono ?_
      rintro e w2 ⟨rfl, hI, hF⟩
      have HH : Hid (σ.I w2 (bs ++ [UInt8.ofNat x]) ∧ Fr B σ.S w1 w2) := ⟨hI, ((K.out.fr HB.out (by simp)).mono (Nat.le_refl _) (by simp)).trans hF⟩
      clear hI hF
      go_wp2_with fail
      go_ret
      exact ⟨rfl, HH.out⟩
end Go.Proofs.YtemcpcgcnjahjaaGreatDoor
