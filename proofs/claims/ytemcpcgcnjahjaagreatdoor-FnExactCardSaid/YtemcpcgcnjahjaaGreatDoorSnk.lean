/-
  The buffer as a writer; what the methods of the writers are.
-/
import Derived.Test.YtemcpcgcnjahjaaGreatDoorCrcX
import Derived.Test.YtemcpcgcnjahjaaGreatDoorShelf
namespace Go.Proofs.YtemcpcgcnjahjaaGreatDoor
open Go.RowKit

theorem look_buf (a : Addr) (w : World) : (method 429 62 (.pointer (some a)) "Write").run Tryz.prog w = .ok (150, .pointer (some a)) w := by kernel_rfl
theorem ahead_buf (a : Addr) (w : World) : (nilAhead 429 62 (.pointer (some a)) "Write").run Tryz.prog w = .ok (some false) w := by kernel_rfl
theorem look_multi (a : Addr) (w : World) : (method 429 198 (.pointer (some a)) "Write").run Tryz.prog w = .ok (180, .pointer (some a)) w := by kernel_rfl
theorem ahead_multi (a : Addr) (w : World) : (nilAhead 429 198 (.pointer (some a)) "Write").run Tryz.prog w = .ok (some false) w := by kernel_rfl
theorem look_d16 (a : Addr) (w : World) : (method 429 241 (.pointer (some a)) "Write").run Tryz.prog w = .ok (188, .pointer (some a)) w := by kernel_rfl
theorem ahead_d16 (a : Addr) (w : World) : (nilAhead 429 241 (.pointer (some a)) "Write").run Tryz.prog w = .ok (some false) w := by kernel_rfl
theorem look_d8 (a : Addr) (w : World) : (method 429 261 (.pointer (some a)) "Write").run Tryz.prog w = .ok (195, .pointer (some a)) w := by kernel_rfl
theorem ahead_d8 (a : Addr) (w : World) : (nilAhead 429 261 (.pointer (some a)) "Write").run Tryz.prog w = .ok (some false) w := by kernel_rfl
theorem enter150 (args : Array Value) (w : World) : (callFunc 150 args).run Tryz.prog w = .ok (.enter 150 args) w := Go.Proofs.enters_of Tryz.func150 (by kernel_rfl) rfl args w
theorem enter180 (args : Array Value) (w : World) : (callFunc 180 args).run Tryz.prog w = .ok (.enter 180 args) w := Go.Proofs.enters_of Tryz.func180 (by kernel_rfl) rfl args w
theorem enter188 (args : Array Value) (w : World) : (callFunc 188 args).run Tryz.prog w = .ok (.enter 188 args) w := Go.Proofs.enters_of Tryz.func188 (by kernel_rfl) rfl args w
theorem enter195 (args : Array Value) (w : World) : (callFunc 195 args).run Tryz.prog w = .ok (.enter 195 args) w := Go.Proofs.enters_of Tryz.func195 (by kernel_rfl) rfl args w

theorem byteCells_one (l : List UInt8) : ∀ v ∈ Lib.byteCells l, v.oneCell' = true := by
  intro v hv
  simp only [Lib.byteCells, List.mem_map] at hv
  obtain ⟨b, _, rfl⟩ := hv
  rfl

/-- What a buffer holds. -/
def Buf (B b : Nat) (bs : List UInt8) (w : World) : Prop := Lib.IsBuffer 56 5 B b (Lib.byteCells bs) w

theorem Buf.kp {B b : Nat} {bs : List UInt8} {w w' : World} {L : List Nat} (h : Buf B b bs w) (k : Kp L w w') (hL : ∀ k ∈ L, k ≠ b ∧ NoRow w k) : Buf B b bs w' := by
  obtain ⟨hB, v, lr, hb, hown, hne⟩ := h
  refine ⟨hB, v, lr, k.at hb fun hm => (hL b hm).1 rfl, ⟨hown.1, ?_⟩, hne⟩
  rcases hown.2 with hn | ⟨g, cap, cur, rfl, hbg, hg, rest⟩
  · exact .inl hn
  · exact .inr ⟨g, cap, cur, rfl, hbg, k.at hg fun hm => (hL g hm).2 _ _ hg, rest⟩

theorem Buf.noRow {B b : Nat} {bs : List UInt8} {w : World} (h : Buf B b bs w) : B ≤ b ∧ b < w.heap.size ∧ NoRow w b := by
  obtain ⟨hB, v, lr, hb, _⟩ := h
  exact ⟨hB, Lib.lt_of_heap hb, noRow_of hb (by decide)⟩

theorem fr_of_others {B b : Nat} {w w' : World} (h : Below B w w') (k : Lib.OthersKept 5 (some b) w w') : Fr B [b] w w' :=
  ⟨h.os, h.tape, h.output, h.size, h.block, fun i hi hn hr => by
    have e : w.heap[i]? = some w.heap[i] := Array.getElem?_eq_getElem hi
    rw [e]
    exact k i _ e (fun h => hn (by simp at h; simp [h])) (fun c fz hc => hr c fz (by rw [e, hc]))⟩

/-- (*bytes.Buffer).Write. -/
theorem bufWrite {B b : Nat} {bs : List UInt8} (xb xo n c : Nat) (cs : List UInt8) {w : World} (h : Buf B b bs w) (hB : B ≤ w.heap.size) (hn : cs.length = n) (hx : xb ≠ b)
    (hc : ∀ j v, (Lib.byteCells cs)[j]? = some v → w.cell? ⟨xb, xo + j, none⟩ = some v) (hl : bs.length + n ≤ 140737488355328) :
    Calls Tryz.prog 150 #[.pointer (some ⟨b, 0, none⟩), .slice (some ⟨xb, xo, none⟩) n c] w fun e w' => e = .returned (.tuple #[.int .i64 n, .nilIface]) ∧ Buf B b (bs ++ cs) w' ∧ Fr B [b] w w' := by
  refine (Tryz.Buffer_Write_any B b (Lib.byteCells bs) (Lib.byteCells cs) ⟨xb, xo, none⟩ n c w h hB (byteCells_one _) (by simp [Lib.byteCells, hn]) hx ?_ (byteCells_one _) (by simpa [Lib.byteCells] using hl)).mono ?_
  · intro j v hj
    rw [Lib.addr_add]
    exact hc j v hj
  · rintro e w' ⟨rfl, h1, h2, h3⟩
    refine ⟨rfl, ?_, fr_of_others h2 h3⟩
    unfold Buf
    rw [show Lib.byteCells (bs ++ cs) = Lib.byteCells bs ++ Lib.byteCells cs by simp [Lib.byteCells]]
    exact h1

def bufSnk (B b : Nat) (pre : List UInt8) (hpre : pre.length ≤ 17592186044416) : Snk B where
  t := 62
  a := b
  f := 150
  S := [b]
  I := fun w bs => B ≤ w.heap.size ∧ Buf B b (pre ++ bs) w
  ahead := ahead_buf _
  look := look_buf _
  enter := enter150
  live := fun h => ⟨h.1, fun k hk => by
    obtain rfl : k = b := by simpa using hk
    exact h.2.noRow⟩
  stable := fun h k hL => ⟨Nat.le_trans h.1 k.size, h.2.kp k fun i hi => ⟨by have := (hL i hi).1; simpa using this, (hL i hi).2⟩⟩
  write := fun xb xo n c cs h hn hx hc hl => by
    refine (bufWrite xb xo n c cs h.2 h.1 hn (by simpa using hx) hc (by rw [List.length_append]; omega)).mono ?_
    rintro e w' ⟨rfl, h1, h2⟩
    exact ⟨rfl, ⟨Nat.le_trans h.1 h2.size, by rw [← List.append_assoc]; exact h1⟩, h2⟩
end Go.Proofs.YtemcpcgcnjahjaaGreatDoor
