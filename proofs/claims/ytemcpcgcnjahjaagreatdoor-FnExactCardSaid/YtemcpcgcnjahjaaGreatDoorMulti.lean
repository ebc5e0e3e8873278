/-
  io.MultiWriter: a writer over two writers, and over a sum and such a one.
-/
import Derived.Test.YtemcpcgcnjahjaaGreatDoorSnk
namespace Go.Proofs.YtemcpcgcnjahjaaGreatDoor
open Go.RowKit

theorem Tryz.info100 : (Tryz.prog.info? 100).map (fun i => (i.zero, i.size, i.bytes)) = some (some .nilIface, 1, 16) := by kernel_rfl

/-- A multiWriter in block M over these writers. -/
def MultiOf (B M : Nat) (xs : List Value) (w : World) : Prop := ∃ v, w.heap[M]? = some (.cells #[v] 201 (0, 0)) ∧ w.ownsRow B 100 1 v xs.length xs
def NewMulti (xs : List Value) (w : World) (e : Ending) (w' : World) : Prop :=
  ∃ M, e = .returned (.iface 198 (.pointer (some ⟨M, 0, none⟩))) ∧ w.heap.size ≤ M ∧ MultiOf w.heap.size M xs w' ∧ Kp [] w w'

set_option maxRecDepth 100000 in
set_option maxHeartbeats 1000000 in
/-- io.MultiWriter of a sum and a buffer. -/
theorem multi2 (V D b c : Nat) (w : World) (h0 : w.cell? ⟨V, 0, none⟩ = some (.iface 241 (.pointer (some ⟨D, 0, none⟩)))) (h1 : w.cell? ⟨V, 1, none⟩ = some (.iface 62 (.pointer (some ⟨b, 0, none⟩)))) :
    Calls Tryz.prog 34 #[.slice (some ⟨V, 0, none⟩) 2 c] w (NewMulti [.iface 241 (.pointer (some ⟨D, 0, none⟩)), .iface 62 (.pointer (some ⟨b, 0, none⟩))] w) := by
  have hmk : ∀ w, (Instr.makeSlice 197 (.int .i64 0) (.int .i64 2)).run Tryz.prog w = .ok (.slice (some ⟨w.heap.size, 0, none⟩) 0 2) (w.alloc (.cells #[.nilIface, .nilIface] 100)) := fun _ => by kernel_rfl
  obtain ⟨i0, hi, hz0, hz1, hz2⟩ := info_parts Tryz.info100
  have hta : ∀ (v : Value) (w : World), (Instr.typeAssert (.iface 241 v) 100 198 true).run Tryz.prog w = .ok (.tuple #[.pointer none, .bool false]) w := fun _ _ => by kernel_rfl
  have htb : ∀ (v : Value) (w : World), (Instr.typeAssert (.iface 62 v) 100 198 true).run Tryz.prog w = .ok (.tuple #[.pointer none, .bool false]) w := fun _ _ => by kernel_rfl
  go_enter Tryz.func34, Tryz.ntmps34
  go_wp2_with fail
  have hV0 := World.block_lt_of_cell? _ _ h0
  go_loopw [3, 13] (fun v j wx => ∃ k : Nat, k ≤ 2 ∧ j = .int .i64 k ∧ wx.ownsRow w.heap.size 100 1 v k ([.iface 241 (.pointer (some ⟨D, 0, none⟩)), .iface 62 (.pointer (some ⟨b, 0, none⟩))].take k) ∧ Kp [] w wx) (fun _ j _ => 2 - (intOf j).toNat)
  case atStart => exact ⟨0, by omega, rfl, World.ownsRow_made w _ 2 (Nat.le_refl _) (by decide) (by decide), Kp.alloc _ _ _⟩
  case round =>
    obtain ⟨k, hk, rfl, hown, hkp⟩ := hrel
    have g0 : wr.cell? ⟨V, 0, none⟩ = some (.iface 241 (.pointer (some ⟨D, 0, none⟩))) := by rw [World.cell?_of_block (hkp.block V hV0 (by simp))]; exact h0
    have g1 : wr.cell? ⟨V, 1, none⟩ = some (.iface 62 (.pointer (some ⟨b, 0, none⟩))) := by rw [World.cell?_of_block (hkp.block V hV0 (by simp))]; exact h1
    have K := Lib.hid hkp; clear hkp
    have O := Lib.hid hown; clear hown
    have hsz : Hid (w.heap.size ≤ wr.heap.size) := K.out.size
    match k, hk with
    | 0, _ =>
      go_wp2_with (at_builtin; refine wpList_append_own _ rfl _ _ 197 rfl w.heap.size 100 i0 .nilIface 1 16 Tryz.underlying197 hi hz0 hz1 hz2 rfl (by decide) _ 0 _ rfl (O.out.alloc _) ⟨wr.heap.size, 0, none⟩ 1 1 [.iface 241 (.pointer (some ⟨D, 0, none⟩))] rfl rfl (cell_one_new _ _ _) (by simp [Value.oneCell']) (by decide) (by decide) (by simp; exact Nat.le_succ_of_le hsz.out) ?_)
      intro v' w1 hown1 hgrow _
      have hk1 : Hid (w1.ownsRow w.heap.size 100 1 v' 1 [.iface 241 (.pointer (some ⟨D, 0, none⟩))] ∧ Kp [] w w1) := ⟨hown1, (K.out.trans (Kp.alloc [] _ _)).new (Kp.grown (S := u3.ownBlock.toList) hgrow (by intro k hk; simp [hk])) (by
        intro k hk
        exact (O.out.lt k (by simpa using hk)).1)⟩
      clear hown1 hgrow
      go_wp2_with fail
      go_roundw
      case rel => exact ⟨1, by omega, rfl, hk1.out⟩
      case measure => simp [intOf]
    | 1, _ =>
      go_wp2_with (at_builtin; refine wpList_append_own _ rfl _ _ 197 rfl w.heap.size 100 i0 .nilIface 1 16 Tryz.underlying197 hi hz0 hz1 hz2 rfl (by decide) _ 1 _ rfl (O.out.alloc _) ⟨wr.heap.size, 0, none⟩ 1 1 [.iface 62 (.pointer (some ⟨b, 0, none⟩))] rfl rfl (cell_one_new _ _ _) (by simp [Value.oneCell']) (by decide) (by decide) (by simp; exact Nat.le_succ_of_le hsz.out) ?_)
      intro v' w1 hown1 hgrow _
      have hk1 : Hid (w1.ownsRow w.heap.size 100 1 v' 2 [.iface 241 (.pointer (some ⟨D, 0, none⟩)), .iface 62 (.pointer (some ⟨b, 0, none⟩))] ∧ Kp [] w w1) := ⟨hown1, (K.out.trans (Kp.alloc [] _ _)).new (Kp.grown (S := u3.ownBlock.toList) hgrow (by intro k hk; simp [hk])) (by
        intro k hk
        exact (O.out.lt k (by simpa using hk)).1)⟩
      clear hown1 hgrow
      go_wp2_with fail
      go_roundw
      case rel => exact ⟨2, by omega, rfl, hk1.out⟩
      case measure => simp [intOf]
    | 2, _ =>
      obtain ⟨g, cap, rfl, hg1, hg2⟩ := ownsRow_slice O.out (by omega)
      go_wp2_with fail
      go_ret
      exact ⟨wr.heap.size, rfl, hsz.out, ⟨_, heap_alloc_new _ _, O.out.alloc _⟩, K.out.trans (Kp.alloc _ _ _)⟩

set_option maxRecDepth 100000 in
set_option maxHeartbeats 1000000 in
/-- io.MultiWriter of a sum and a multiWriter of two. -/
theorem multi3 (V D c B M : Nat) (x y : Value) (w : World) (h0 : w.cell? ⟨V, 0, none⟩ = some (.iface 261 (.pointer (some ⟨D, 0, none⟩)))) (h1 : w.cell? ⟨V, 1, none⟩ = some (.iface 198 (.pointer (some ⟨M, 0, none⟩))))
    (hm : MultiOf B M [x, y] w) (hx : x.oneCell' = true) (hy : y.oneCell' = true) :
    Calls Tryz.prog 34 #[.slice (some ⟨V, 0, none⟩) 2 c] w (NewMulti [.iface 261 (.pointer (some ⟨D, 0, none⟩)), x, y] w) := by
  have hmk : ∀ w, (Instr.makeSlice 197 (.int .i64 0) (.int .i64 2)).run Tryz.prog w = .ok (.slice (some ⟨w.heap.size, 0, none⟩) 0 2) (w.alloc (.cells #[.nilIface, .nilIface] 100)) := fun _ => by kernel_rfl
  obtain ⟨i0, hi, hz0, hz1, hz2⟩ := info_parts Tryz.info100
  have hta : ∀ (v : Value) (w : World), (Instr.typeAssert (.iface 261 v) 100 198 true).run Tryz.prog w = .ok (.tuple #[.pointer none, .bool false]) w := fun _ _ => by kernel_rfl
  have htb : ∀ (v : Value) (w : World), (Instr.typeAssert (.iface 198 v) 100 198 true).run Tryz.prog w = .ok (.tuple #[v, .bool true]) w := fun _ _ => by kernel_rfl
  obtain ⟨v, hM, hrow⟩ := hm
  obtain ⟨R, rcap, rfl, hR1, hR2⟩ := ownsRow_slice hrow (by simp)
  have hMlt := Lib.lt_of_heap hM
  have m0 := Lib.cell_of_heap hM 0
  simp only [List.getElem?_toArray, List.getElem?_cons_zero, List.length_cons, List.length_nil, Nat.zero_add, Nat.reduceAdd] at m0
  have r0 := ownsRow_cell hrow (i := 0) (x := x) rfl
  have r1 := ownsRow_cell hrow (i := 1) (x := y) rfl
  have HX := Lib.hid hx; clear hx
  have HY := Lib.hid hy; clear hy
  clear hM hrow
  go_enter Tryz.func34, Tryz.ntmps34
  go_wp2_with fail
  have hV0 := World.block_lt_of_cell? _ _ h0
  go_loopw [3, 13] (fun v j wx => ∃ k : Nat, k ≤ 2 ∧ j = .int .i64 k ∧ wx.ownsRow w.heap.size 100 1 v (if k = 2 then 3 else k) (if k = 0 then [] else if k = 1 then [.iface 261 (.pointer (some ⟨D, 0, none⟩))] else [.iface 261 (.pointer (some ⟨D, 0, none⟩)), x, y]) ∧ Kp [] w wx) (fun _ j _ => 2 - (intOf j).toNat)
  case atStart => exact ⟨0, by omega, rfl, World.ownsRow_made w _ 2 (Nat.le_refl _) (by decide) (by decide), Kp.alloc _ _ _⟩
  case round =>
    obtain ⟨k, hk, rfl, hown, hkp⟩ := hrel
    have g0 : wr.cell? ⟨V, 0, none⟩ = some (.iface 261 (.pointer (some ⟨D, 0, none⟩))) := by rw [World.cell?_of_block (hkp.block V hV0 (by simp))]; exact h0
    have g1 : wr.cell? ⟨V, 1, none⟩ = some (.iface 198 (.pointer (some ⟨M, 0, none⟩))) := by rw [World.cell?_of_block (hkp.block V hV0 (by simp))]; exact h1
    have g2 : wr.cell? ⟨M, 0, none⟩ = some (.slice (some ⟨R, 0, none⟩) 2 rcap) := by rw [World.cell?_of_block (hkp.block M hMlt (by simp))]; exact m0
    have g3 : wr.cell? ⟨R, 0, none⟩ = some x := by rw [World.cell?_of_block (hkp.block R hR2 (by simp))]; exact r0
    have g4 : wr.cell? ⟨R, 1, none⟩ = some y := by rw [World.cell?_of_block (hkp.block R hR2 (by simp))]; exact r1
    have G3 := Lib.hid g3
    have G4 := Lib.hid g4
    clear g3 g4 r0 r1 m0 h0 h1
    have K := Lib.hid hkp; clear hkp
    have O := Lib.hid hown; clear hown
    have hsz : Hid (w.heap.size ≤ wr.heap.size) := K.out.size
    match k, hk with
    | 0, _ =>
      go_wp2_with (at_builtin; refine wpList_append_own _ rfl _ _ 197 rfl w.heap.size 100 i0 .nilIface 1 16 Tryz.underlying197 hi hz0 hz1 hz2 rfl (by decide) _ 0 _ rfl (O.out.alloc _) ⟨wr.heap.size, 0, none⟩ 1 1 [.iface 261 (.pointer (some ⟨D, 0, none⟩))] rfl rfl (cell_one_new _ _ _) (by simp [Value.oneCell']) (by decide) (by decide) (by simp; exact Nat.le_succ_of_le hsz.out) ?_)
      intro v' w1 hown1 hgrow _
      have hk1 : Hid (w1.ownsRow w.heap.size 100 1 v' 1 [.iface 261 (.pointer (some ⟨D, 0, none⟩))] ∧ Kp [] w w1) := ⟨hown1, (K.out.trans (Kp.alloc [] _ _)).new (Kp.grown (S := u3.ownBlock.toList) hgrow (by intro k hk; simp [hk])) (by
        intro k hk
        exact (O.out.lt k (by simpa using hk)).1)⟩
      clear hown1 hgrow
      go_wp2_with fail
      go_roundw
      case rel => exact ⟨1, by omega, rfl, hk1.out⟩
      case measure => simp [intOf]
    | 1, _ =>
      go_wp2_with (at_builtin; refine wpList_append_own _ rfl _ _ 197 rfl w.heap.size 100 i0 .nilIface 1 16 Tryz.underlying197 hi hz0 hz1 hz2 rfl (by decide) _ 1 _ rfl O.out ⟨R, 0, none⟩ 2 rcap [x, y] rfl rfl ?c1 ?c2 (by decide) (by decide) hsz.out ?_)
      case c1 =>
        intro j u hj
        match j with
        | 0 => rw [G3.out]; simpa using hj
        | 1 => rw [G4.out]; simpa using hj
        | j + 2 => simp at hj
      case c2 => exact ⟨HX.out, HY.out⟩
      intro v' w1 hown1 hgrow _
      have hk1 : Hid (w1.ownsRow w.heap.size 100 1 v' 3 [.iface 261 (.pointer (some ⟨D, 0, none⟩)), x, y] ∧ Kp [] w w1) := ⟨hown1, K.out.new (Kp.grown (S := u3.ownBlock.toList) hgrow (by intro k hk; simp [hk])) (by
        intro k hk
        exact (O.out.lt k (by simpa using hk)).1)⟩
      clear hown1 hgrow
      go_wp2_with fail
      go_roundw
      case rel => exact ⟨2, by omega, rfl, hk1.out⟩
      case measure => simp [intOf]
    | 2, _ =>
      obtain ⟨g, cap, rfl, hg1, hg2⟩ := ownsRow_slice O.out (by simp)
      go_wp2_with fail
      go_ret
      exact ⟨wr.heap.size, rfl, hsz.out, ⟨_, heap_alloc_new _ _, O.out.alloc _⟩, K.out.trans (Kp.alloc _ _ _)⟩
/-- What the writers of a multiWriter do one after the other. -/
structure Chain (B : Nat) (S : List Nat) (M m xb xo n cap : Nat) (w0 : World) where
  R : Nat
  rcap : Nat
  ts : Nat → TypeId
  bl : Nat → Nat
  fs : Nat → FuncId
  Pr : Nat → World → Prop
  ahead : ∀ i, i < m → ∀ w, (nilAhead 429 (ts i) (.pointer (some ⟨bl i, 0, none⟩)) "Write").run Tryz.prog w = .ok (some false) w
  look : ∀ i, i < m → ∀ w, (method 429 (ts i) (.pointer (some ⟨bl i, 0, none⟩)) "Write").run Tryz.prog w = .ok (fs i, .pointer (some ⟨bl i, 0, none⟩)) w
  enter : ∀ i, i < m → ∀ args w, (callFunc (fs i) args).run Tryz.prog w = .ok (.enter (fs i) args) w
  own : ∀ i w, Pr i w → w.cell? ⟨M, 0, none⟩ = some (.slice (some ⟨R, 0, none⟩) m rcap)
  row : ∀ i w, Pr i w → ∀ j, j < m → w.cell? ⟨R, j, none⟩ = some (.iface (ts j) (.pointer (some ⟨bl j, 0, none⟩)))
  step : ∀ i, i < m → ∀ w, Pr i w → Calls Tryz.prog (fs i) #[.pointer (some ⟨bl i, 0, none⟩), .slice (some ⟨xb, xo, none⟩) n cap] w fun e w' =>
    e = .returned (.tuple #[.int .i64 n, .nilIface]) ∧ Pr (i + 1) w' ∧ Fr B S w w'

set_option maxRecDepth 100000 in
set_option maxHeartbeats 1000000 in
/-- (*multiWriter).Write. -/
theorem multiWrite {B : Nat} {S : List Nat} {M m xb xo n cap : Nat} {w : World} (C : Chain B S M m xb xo n cap w) (hm : m < 1000) (h : C.Pr 0 w) :
    Calls Tryz.prog 180 #[.pointer (some ⟨M, 0, none⟩), .slice (some ⟨xb, xo, none⟩) n cap] w fun e w' => e = .returned (.tuple #[.int .i64 n, .nilIface]) ∧ C.Pr m w' ∧ Fr B S w w' := by
  have o0 := C.own 0 w h
  have H := Lib.hid h; clear h
  go_enter Tryz.func180, Tryz.ntmps180
  go_wp2_with fail
  go_loopw [13] (fun j wx => ∃ i : Nat, i ≤ m ∧ j = .int .i64 i ∧ C.Pr i wx ∧ Fr B S w wx) (fun j _ => m - (intOf j).toNat)
  case atStart => exact ⟨0, by omega, rfl, H.out, Fr.refl _ _ _⟩
  case round =>
    obtain ⟨i, hi, rfl, hp, hf⟩ := hrel
    have P := Lib.hid hp; clear hp
    have F := Lib.hid hf; clear hf
    clear o0
    by_cases hlt : i < m
    · have hA := C.ahead i hlt
      have hL := C.look i hlt
      have hE := C.enter i hlt
      have r := C.row i wr P.out i hlt
      go_wp2_with fail
      refine (C.step i hlt wr P.out).mono ?_
      rintro e w' ⟨rfl, hp, hf⟩
      have HH : Hid (C.Pr (i + 1) w' ∧ Fr B S w w') := ⟨hp, F.out.trans hf⟩
      clear hp hf
      have hself : ((n : Int) != (n : Int)) = false := by simp
      go_wp2_with fail
      go_roundw
      case rel => exact ⟨i + 1, by omega, by go_num, HH.out⟩
      case measure => simp [intOf]; omega
    · obtain rfl : i = m := by omega
      go_wp2_with fail
      go_ret2
      exact ⟨rfl, P.out, F.out⟩

end Go.Proofs.YtemcpcgcnjahjaaGreatDoor
