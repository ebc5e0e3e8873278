/-
  What stays of a world, and a writer to which bytes are handed through an interface.
-/
import Derived.Test.YtemcpcgcnjahjaaGreatDoorProg
import Derived.Test.YtemcpcgcnjahjaaGreatDoorBits
import Derived.Lib.Buffer
import Derived.Lib.Hide
import Derived.Deep.LoopGhost
import Derived.Deep.RegionWith
import Derived.Deep.QuietTactic
import Derived.BigQuiet
import Derived.Deep.RegionHeld3
import Derived.Deep.Cut
import Derived.Deep.DeepCutAuto
import Derived.Deep.AppendLies
import Derived.WalkKit
import Derived.WalkSpells
import Derived.WalkLawsBesides
namespace Go.Proofs.YtemcpcgcnjahjaaGreatDoor
open Go.RowKit

/-- Every block of w that is not in S stands in w' as it stood. -/
structure Kp (S : List Nat) (w w' : World) : Prop where
  os : w'.os = w.os
  tape : w'.tape = w.tape
  output : w'.output = w.output
  size : w.heap.size ≤ w'.heap.size
  block : ∀ k, k < w.heap.size → k ∉ S → w'.heap[k]? = w.heap[k]?

/-- The block is no row of bytes. -/
def NoRow (w : World) (k : Nat) : Prop := ∀ c fz, w.heap[k]? ≠ some (.cells c 5 fz)

/-- The same, but that rows of bytes from block B on may have turned, too. -/
structure Fr (B : Nat) (S : List Nat) (w w' : World) : Prop where
  os : w'.os = w.os
  tape : w'.tape = w.tape
  output : w'.output = w.output
  size : w.heap.size ≤ w'.heap.size
  below : ∀ k, k < B → w'.heap[k]? = w.heap[k]?
  block : ∀ k, k < w.heap.size → k ∉ S → NoRow w k → w'.heap[k]? = w.heap[k]?

theorem Kp.refl (S : List Nat) (w : World) : Kp S w w := ⟨rfl, rfl, rfl, Nat.le_refl _, fun _ _ _ => rfl⟩
theorem Fr.refl (B : Nat) (S : List Nat) (w : World) : Fr B S w w := ⟨rfl, rfl, rfl, Nat.le_refl _, fun _ _ => rfl, fun _ _ _ _ => rfl⟩

theorem Kp.trans {S : List Nat} {a b c : World} (h : Kp S a b) (k : Kp S b c) : Kp S a c :=
  ⟨k.os.trans h.os, k.tape.trans h.tape, k.output.trans h.output, Nat.le_trans h.size k.size,
    fun i hi hn => (k.block i (Nat.lt_of_lt_of_le hi h.size) hn).trans (h.block i hi hn)⟩

theorem NoRow.of_eq {w w' : World} {k : Nat} (h : w'.heap[k]? = w.heap[k]?) (n : NoRow w k) : NoRow w' k := fun c fz => by rw [h]; exact n c fz

theorem Fr.trans {B : Nat} {S : List Nat} {a b c : World} (h : Fr B S a b) (k : Fr B S b c) : Fr B S a c :=
  ⟨k.os.trans h.os, k.tape.trans h.tape, k.output.trans h.output, Nat.le_trans h.size k.size, fun i hi => (k.below i hi).trans (h.below i hi),
    fun i hi hn hr => (k.block i (Nat.lt_of_lt_of_le hi h.size) hn (hr.of_eq (h.block i hi hn hr))).trans (h.block i hi hn hr)⟩

/-- Blocks that were not there count for nothing. -/
theorem Kp.mono {S S' : List Nat} {w w' : World} (h : Kp S w w') (hs : ∀ k, k < w.heap.size → k ∈ S → k ∈ S') : Kp S' w w' :=
  ⟨h.os, h.tape, h.output, h.size, fun k hk hn => h.block k hk fun hm => hn (hs k hk hm)⟩
theorem Fr.mono {B B' : Nat} {S S' : List Nat} {w w' : World} (h : Fr B S w w') (hB : B' ≤ B) (hs : ∀ k, k < w.heap.size → k ∈ S → k ∈ S') : Fr B' S' w w' :=
  ⟨h.os, h.tape, h.output, h.size, fun k hk => h.below k (Nat.lt_of_lt_of_le hk hB), fun k hk hn => h.block k hk fun hm => hn (hs k hk hm)⟩

/-- What is written of blocks that were not there at first counts for nothing. -/
theorem Kp.after {S S' : List Nat} {a b c : World} (h : Kp S a b) (k : Kp S' b c) (hs : ∀ i, i < a.heap.size → i ∈ S' → i ∈ S) : Kp S a c :=
  ⟨k.os.trans h.os, k.tape.trans h.tape, k.output.trans h.output, Nat.le_trans h.size k.size,
    fun i hi hn => (k.block i (Nat.lt_of_lt_of_le hi h.size) fun hm => hn (hs i hi hm)).trans (h.block i hi hn)⟩
theorem Fr.after {B : Nat} {S S' : List Nat} {a b c : World} (h : Fr B S a b) (k : Fr B S' b c) (hs : ∀ i, i < a.heap.size → i ∈ S' → i ∈ S) : Fr B S a c :=
  ⟨k.os.trans h.os, k.tape.trans h.tape, k.output.trans h.output, Nat.le_trans h.size k.size, fun i hi => (k.below i hi).trans (h.below i hi),
    fun i hi hn hr => (k.block i (Nat.lt_of_lt_of_le hi h.size) (fun hm => hn (hs i hi hm)) (hr.of_eq (h.block i hi hn hr))).trans (h.block i hi hn hr)⟩
/-- Only new blocks have been written. -/
theorem Kp.new {S S' : List Nat} {a b c : World} (h : Kp S a b) (k : Kp S' b c) (hs : ∀ i ∈ S', a.heap.size ≤ i) : Kp S a c :=
  h.after k fun i hi hm => by have := hs i hm; omega

theorem Kp.fr {B : Nat} {S : List Nat} {w w' : World} (h : Kp S w w') (hB : B ≤ w.heap.size) (hs : ∀ k ∈ S, B ≤ k) : Fr B S w w' :=
  ⟨h.os, h.tape, h.output, h.size, fun k hk => h.block k (Nat.lt_of_lt_of_le hk hB) fun hm => by have := hs k hm; omega, fun k hk hn _ => h.block k hk hn⟩

theorem Fr.below' {B : Nat} {S : List Nat} {w w' : World} (h : Fr B S w w') : Below B w w' := ⟨h.os, h.tape, h.output, h.size, h.below⟩

theorem Kp.alloc (S : List Nat) (w : World) (o : Obj) : Kp S w (w.alloc o) := ⟨rfl, rfl, rfl, by simp, fun k hk _ => Below.heap_alloc _ _ _ hk⟩
theorem Kp.drew (S : List Nat) (w : World) : Kp S w w.drew := ⟨rfl, rfl, rfl, Nat.le_refl _, fun _ _ _ => rfl⟩
theorem Kp.setCell {S : List Nat} (w : World) (a : Addr) (v : Value) (h : a.block ∈ S) : Kp S w (w.setCell a v) :=
  ⟨rfl, rfl, rfl, by simp, fun k _ hn => Below.heap_setCell _ _ _ _ fun e => hn (e ▸ h)⟩
theorem Kp.grown {S : List Nat} {w w' : World} {row : Option Nat} (h : w.grownBy w' row) (hr : ∀ k, row = some k → k ∈ S) : Kp S w w' :=
  ⟨h.os, h.tape, h.output, h.size, fun k hk hn => h.block k hk fun e => hn (hr k e.symm)⟩
theorem Kp.ofBelow {w w' : World} (h : Below w.heap.size w w') : Kp [] w w' := ⟨h.os, h.tape, h.output, h.size, fun k hk _ => h.block k hk⟩
theorem Kp.toBelow {w w' : World} (h : Kp [] w w') : Below w.heap.size w w' := ⟨h.os, h.tape, h.output, h.size, fun k hk => h.block k hk (by simp)⟩

theorem Kp.at {S : List Nat} {w w' : World} (h : Kp S w w') {k : Nat} {o : Obj} (ho : w.heap[k]? = some o) (hn : k ∉ S) : w'.heap[k]? = some o := by
  rw [h.block k (Lib.lt_of_heap ho) hn, ho]
theorem Fr.at {B : Nat} {S : List Nat} {w w' : World} (h : Fr B S w w') {k : Nat} {c : Array Value} {T : TypeId} {fz : Nat × Nat} (ho : w.heap[k]? = some (.cells c T fz)) (hn : k ∉ S) (hT : T ≠ 5) :
    w'.heap[k]? = some (.cells c T fz) := by
  rw [h.block k (Lib.lt_of_heap ho) hn (fun c' fz' e => by rw [ho] at e; simp at e; exact hT e.2.1), ho]

/-- A block of cells, a cell of which is written. -/
theorem heap_set {w : World} {g i : Nat} {cs : Array Value} {T : TypeId} {v : Value} (h : w.heap[g]? = some (.cells cs T (0, 0))) : (w.setCell ⟨g, i, none⟩ v).heap[g]? = some (.cells (cs.setIfInBounds i v) T (0, 0)) :=
  heap_setCell_same w g i cs T v h
theorem heap_set_other {w : World} {g b i : Nat} {o : Obj} {v : Value} (h : w.heap[g]? = some o) (hn : g ≠ b) : (w.setCell ⟨b, i, none⟩ v).heap[g]? = some o := by
  rw [Below.heap_setCell _ _ _ _ hn, h]
theorem heap_alloc {w : World} {g : Nat} {o x : Obj} (h : w.heap[g]? = some o) : (w.alloc x).heap[g]? = some o := by
  rw [Below.heap_alloc _ _ _ (Lib.lt_of_heap h), h]

theorem noRow_of {w : World} {k : Nat} {c : Array Value} {T : TypeId} {fz : Nat × Nat} (ho : w.heap[k]? = some (.cells c T fz)) (hT : T ≠ 5) : NoRow w k :=
  fun c' fz' e => by rw [ho] at e; simp at e; exact hT e.2.1

theorem ownsRow_slice {w : World} {B : Nat} {e : TypeId} {sz : Nat} {v : Value} {n : Nat} {xs : List Value} (h : w.ownsRow B e sz v n xs) (hn : 0 < n) :
    ∃ g cap, v = .slice (some ⟨g, 0, none⟩) n cap ∧ B ≤ g ∧ g < w.heap.size := by
  rcases h.2 with ⟨_, h0⟩ | ⟨g, cap, cur, rfl, hb, hg, _⟩
  · omega
  · exact ⟨g, cap, rfl, hb, Lib.lt_of_heap hg⟩

theorem ownsRow_kp {w w' : World} {B : Nat} {e : TypeId} {sz : Nat} {v : Value} {n : Nat} {xs : List Value} {L : List Nat} (h : w.ownsRow B e sz v n xs) (k : Kp L w w') (hL : ∀ g, v.ownBlock = some g → g ∉ L) :
    w'.ownsRow B e sz v n xs := by
  refine ⟨h.1, ?_⟩
  rcases h.2 with h0 | ⟨g, cap, cur, rfl, hb, hg, rest⟩
  · exact .inl h0
  · exact .inr ⟨g, cap, cur, rfl, hb, k.at hg (hL g rfl), rest⟩

/-- A cell of a row that is owned. -/
theorem ownsRow_cell {w : World} {B : Nat} {e : TypeId} {g n cap : Nat} {xs : List Value} (h : w.ownsRow B e 1 (.slice (some ⟨g, 0, none⟩) n cap) n xs) {i : Nat} {x : Value} (hx : xs[i]? = some x) : w.cell? ⟨g, i, none⟩ = some x := by
  have := h.cells (g := g) rfl i x hx
  rwa [Lib.addr_add, Nat.zero_add] at this

/-- An io.Writer that lies behind a pointer: which blocks it may write, and what holds of the world when it has been handed these bytes. -/
structure Snk (B : Nat) where
  t : TypeId
  a : Nat
  f : FuncId
  S : List Nat
  I : World → List UInt8 → Prop
  ahead : ∀ w, (nilAhead 429 t (.pointer (some ⟨a, 0, none⟩)) "Write").run Tryz.prog w = .ok (some false) w
  look : ∀ w, (method 429 t (.pointer (some ⟨a, 0, none⟩)) "Write").run Tryz.prog w = .ok (f, .pointer (some ⟨a, 0, none⟩)) w
  enter : ∀ args w, (callFunc f args).run Tryz.prog w = .ok (.enter f args) w
  live : ∀ {w bs}, I w bs → B ≤ w.heap.size ∧ ∀ k ∈ S, B ≤ k ∧ k < w.heap.size ∧ NoRow w k
  stable : ∀ {w w' bs L}, I w bs → Kp L w w' → (∀ k ∈ L, k ∉ S ∧ NoRow w k) → I w' bs
  write : ∀ {w bs} (xb xo n c : Nat) (cs : List UInt8), I w bs → cs.length = n → xb ∉ S → (∀ j v, (Lib.byteCells cs)[j]? = some v → w.cell? ⟨xb, xo + j, none⟩ = some v) →
    bs.length + n ≤ 70368744177664 →
    Calls Tryz.prog f #[.pointer (some ⟨a, 0, none⟩), .slice (some ⟨xb, xo, none⟩) n c] w fun e w' =>
      e = .returned (.tuple #[.int .i64 n, .nilIface]) ∧ I w' (bs ++ cs) ∧ Fr B S w w'

def Snk.v {B : Nat} (σ : Snk B) : Value := .iface σ.t (.pointer (some ⟨σ.a, 0, none⟩))

theorem Snk.set {B : Nat} (σ : Snk B) {w : World} {bs : List UInt8} {W i : Nat} {cs : Array Value} {T : TypeId} {v : Value} (h : σ.I w bs) (hW : w.heap[W]? = some (.cells cs T (0, 0))) (hT : T ≠ 5) (hn : W ∉ σ.S) :
    σ.I (w.setCell ⟨W, i, none⟩ v) bs :=
  σ.stable h (Kp.setCell (S := [W]) _ _ _ (by simp)) fun k hk => by
    obtain rfl : k = W := by simpa using hk
    exact ⟨hn, noRow_of hW hT⟩
theorem Snk.alloc {B : Nat} (σ : Snk B) {w : World} {bs : List UInt8} (h : σ.I w bs) (o : Obj) : σ.I (w.alloc o) bs :=
  σ.stable h (Kp.alloc [] _ _) fun k hk => by simp at hk
theorem Snk.drew {B : Nat} (σ : Snk B) {w : World} {bs : List UInt8} (h : σ.I w bs) : σ.I w.drew bs :=
  σ.stable h (Kp.drew [] _) fun k hk => by simp at hk

theorem new_byte (w : World) (g m : Nat) (T : TypeId) (hg : w.heap.size = g) (hm : m < 256) :
    ∀ j v, (Lib.byteCells [UInt8.ofNat m])[j]? = some v → (w.alloc (.cells #[.int .u8 (m : Int)] T)).cell? ⟨g, 0 + j, none⟩ = some v := by
  intro j v hj
  subst hg
  rw [← Lib.addr_add]
  refine cell_one_new w (.int .u8 (m : Int)) T j v ?_
  have e : Lib.byteCells [UInt8.ofNat m] = [.int .u8 (m : Int)] := by
    simp only [Lib.byteCells, List.map_cons, List.map_nil, UInt8.toNat_ofNat']
    rw [Nat.mod_eq_of_lt (by omega)]
  rw [e] at hj
  exact hj

/-- A bitio.Writer in block W over a sink: the bytes that have gone on, the bits that wait. -/
structure BW {B : Nat} (σ : Snk B) (W : Nat) (s : List UInt8 × List Bool) (w : World) : Prop where
  cells : w.heap[W]? = some (.cells #[σ.v, .int .u8 (valB s.2), .int .u8 s.2.length] 172 (0, 0))
  few : s.2.length < 8
  base : B ≤ W
  out : W ∉ σ.S
  sink : σ.I w s.1

theorem BW.alloc {B : Nat} {σ : Snk B} {W : Nat} {s : List UInt8 × List Bool} {w : World} (h : BW σ W s w) (o : Obj) : BW σ W s (w.alloc o) :=
  ⟨heap_alloc h.cells, h.few, h.base, h.out, σ.alloc h.sink o⟩
theorem BW.drew {B : Nat} {σ : Snk B} {W : Nat} {s : List UInt8 × List Bool} {w : World} (h : BW σ W s w) : BW σ W s w.drew :=
  ⟨h.cells, h.few, h.base, h.out, σ.drew h.sink⟩
theorem BW.kp {B : Nat} {σ : Snk B} {W : Nat} {s : List UInt8 × List Bool} {w w' : World} {L : List Nat} (h : BW σ W s w) (k : Kp L w w') (hL : ∀ k ∈ L, k ≠ W ∧ k ∉ σ.S ∧ NoRow w k) : BW σ W s w' :=
  ⟨k.at h.cells (fun hm => (hL W hm).1 rfl), h.few, h.base, h.out, σ.stable h.sink k fun i hi => (hL i hi).2⟩
theorem BW.lt {B : Nat} {σ : Snk B} {W : Nat} {s : List UInt8 × List Bool} {w : World} (h : BW σ W s w) : W < w.heap.size := Lib.lt_of_heap h.cells
theorem BW.baseLe {B : Nat} {σ : Snk B} {W : Nat} {s : List UInt8 × List Bool} {w : World} (h : BW σ W s w) : B ≤ w.heap.size := (σ.live h.sink).1

end Go.Proofs.YtemcpcgcnjahjaaGreatDoor
