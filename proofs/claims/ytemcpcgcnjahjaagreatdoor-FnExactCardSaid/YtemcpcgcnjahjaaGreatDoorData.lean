/-
  What is given to both sides, as it lies in memory; the stream of it, plainly.
-/
import Derived.Test.YtemcpcgcnjahjaaGreatDoorSpecH
import Derived.Test.YtemcpcgcnjahjaaGreatDoorSpecI
import Derived.Test.YtemcpcgcnjahjaaGreatDoorWFrameB
namespace Go.Proofs.YtemcpcgcnjahjaaGreatDoor
open Go.RowKit

/-- A fact that no step of a walk looks into. -/
structure Bx (p : Prop) : Prop where
  out : p

/-- Samples of the frames ahead. -/
def aheadOf (fs : List PFrame) (k : Nat) : Nat := ((fs.take k).map PFrame.size).sum
/-- A frame's number. -/
def numV (va : Bool) (fs : List PFrame) (k : Nat) : Nat := if va then aheadOf fs k else k
/-- The stream up to a frame. -/
def streamB (i : PInfo) (va : Bool) (fs : List PFrame) : Nat → List UInt8
  | 0 => i.bytes
  | k + 1 => streamB i va fs k ++ (match fs[k]? with | some f => f.bytes (numV va fs k) | none => [])

theorem streamB_succ (i : PInfo) (va : Bool) (fs : List PFrame) (k : Nat) (f : PFrame) (h : fs[k]? = some f) : streamB i va fs (k + 1) = streamB i va fs k ++ f.bytes (numV va fs k) := by
  show streamB i va fs k ++ _ = _
  rw [h]
theorem aheadOf_succ (fs : List PFrame) (k : Nat) (f : PFrame) (h : fs[k]? = some f) : aheadOf fs (k + 1) = aheadOf fs k + f.size := by
  unfold aheadOf
  have hk := (List.getElem?_eq_some_iff.1 h)
  obtain ⟨hk, e⟩ := hk
  rw [List.take_succ_eq_append_getElem hk, List.map_append, List.sum_append, e]
  simp
theorem numV_succ (va : Bool) (fs : List PFrame) (k : Nat) (f : PFrame) (h : fs[k]? = some f) (hv : f.varies = va) : numV va fs (k + 1) = numV va fs k + if f.varies then f.size else 1 := by
  unfold numV
  rw [hv]
  cases va
  · rfl
  · exact aheadOf_succ fs k f h

/-- What is asked of what is given. -/
structure FsOk (i : PInfo) (va : Bool) (fs : List PFrame) : Prop where
  few : fs.length ≤ 3
  ok : ∀ f ∈ fs, f.Ok
  same : ∀ f ∈ fs, f.varies = va
  bits : ∀ f ∈ fs, f.bits = i.bits
  nch : ∀ f ∈ fs, f.subs.length = i.nch
  pars : ∀ f ∈ fs, ∀ s ∈ f.subs, 1 ≤ s.pars.length ∧ s.pars.length ≤ 4 ∧ ∀ p ∈ s.pars, p ≤ 14

theorem sum_le (l : List Nat) (K : Nat) (h : ∀ x ∈ l, x ≤ K) : l.sum ≤ l.length * K := by
  induction l with
  | nil => simp
  | cons a l ih =>
    have h1 := ih fun x hx => h x (List.mem_cons_of_mem _ hx)
    have h2 := h a (List.mem_cons_self ..)
    rw [List.sum_cons, List.length_cons, Nat.add_mul]
    omega
theorem FsOk.ahead {i : PInfo} {va : Bool} {fs : List PFrame} (h : FsOk i va fs) (k : Nat) : aheadOf fs k ≤ 768 := by
  have h1 := sum_le ((fs.take k).map PFrame.size) 256 fun x hx => by
    rw [List.mem_map] at hx
    obtain ⟨f, hf, rfl⟩ := hx
    exact (h.ok f (List.mem_of_mem_take hf)).size2
  have h2 : ((fs.take k).map PFrame.size).length ≤ 3 := by
    rw [List.length_map, List.length_take]
    have := h.few
    omega
  unfold aheadOf
  have : ((fs.take k).map PFrame.size).length * 256 ≤ 3 * 256 := Nat.mul_le_mul_right _ h2
  omega
theorem FsOk.num {i : PInfo} {va : Bool} {fs : List PFrame} (h : FsOk i va fs) (k : Nat) (hk : k ≤ fs.length) : numV va fs k ≤ 768 := by
  unfold numV
  have := h.few
  have := h.ahead k
  split <;> omega

/-! ### The reference's data -/

/-- The cells of a frame's header as the reference is given it. -/
def headCells (f : PFrame) : List Value := [.bool f.varies, .int .i64 f.size, .int .i64 f.rate, .int .i64 f.assign, .int .i64 f.bits, .int .u64 0]
def HeadsAt (b : Nat) (fs : List PFrame) (w : World) : Prop :=
  ∃ sc : Array Value, w.heap[b]? = some (.cells sc 43 (0, 0)) ∧ ∀ (k : Nat) (f : PFrame), fs[k]? = some f → ∀ (j : Nat) v, (headCells f)[j]? = some v → sc[k * 6 + j]? = some v
theorem HeadsAt.cell {b : Nat} {fs : List PFrame} {w : World} (h : HeadsAt b fs w) {k : Nat} {f : PFrame} (hk : fs[k]? = some f) (j : Nat) {v : Value} (hj : (headCells f)[j]? = some v) : w.cell? ⟨b, k * 6 + j, none⟩ = some v := by
  obtain ⟨sc, h1, h2⟩ := h
  exact (Lib.cell_of_heap h1 _).trans (h2 k f hk j v hj)
theorem HeadsAt.kp {b : Nat} {fs : List PFrame} {w w' : World} (h : HeadsAt b fs w) (k : Kp [] w w') : HeadsAt b fs w' := by
  obtain ⟨sc, h1, h2⟩ := h
  exact ⟨sc, k.at h1 (by simp), h2⟩

def RowAt (a : Nat) (ss : List PSub) (w : World) : Prop :=
  ∃ sc : Array Value, w.heap[a]? = some (.cells sc 87 (0, 0)) ∧ ∀ (c : Nat) (s : PSub), ss[c]? = some s → ∃ P pcap g cap, s.smp.length ≤ cap ∧ IntAt g s.smp w ∧ IntAt P (s.pars.map Int.ofNat) w ∧ ∀ (j : Nat) v, (s.sc P pcap g cap)[j]? = some v → sc[c * 5 + j]? = some v
theorem RowAt.kp {a : Nat} {ss : List PSub} {w w' : World} (h : RowAt a ss w) (k : Kp [] w w') : RowAt a ss w' := by
  obtain ⟨sc, h1, h2⟩ := h
  refine ⟨sc, k.at h1 (by simp), fun c s hc => ?_⟩
  obtain ⟨P, pcap, g, cap, h3, h4, h5, h6⟩ := h2 c s hc
  exact ⟨P, pcap, g, cap, h3, h4.kp k (by simp), h5.kp k (by simp), h6⟩
theorem RowAt.get {a : Nat} {ss : List PSub} {w : World} (h : RowAt a ss w) {c : Nat} {s : PSub} (hc : ss[c]? = some s) :
    ∃ P pcap g cap, s.smp.length ≤ cap ∧ IntAt g s.smp w ∧ IntAt P (s.pars.map Int.ofNat) w ∧ ∀ (j : Nat) v, (s.sc P pcap g cap)[j]? = some v → w.cell? ⟨a, c * 5 + j, none⟩ = some v := by
  obtain ⟨sc, h1, h2⟩ := h
  obtain ⟨P, pcap, g, cap, h3, h4, h5, h6⟩ := h2 c s hc
  exact ⟨P, pcap, g, cap, h3, h4, h5, fun j v hj => (Lib.cell_of_heap h1 _).trans (h6 j v hj)⟩

def AllAt (A : Nat) (fs : List PFrame) (w : World) : Prop :=
  ∃ sc : Array Value, w.heap[A]? = some (.cells sc 85 (0, 0)) ∧ ∀ (k : Nat) (f : PFrame), fs[k]? = some f → ∃ a cap, sc[k]? = some (.slice (some ⟨a, 0, none⟩) f.subs.length cap) ∧ RowAt a f.subs w
theorem AllAt.kp {A : Nat} {fs : List PFrame} {w w' : World} (h : AllAt A fs w) (k : Kp [] w w') : AllAt A fs w' := by
  obtain ⟨sc, h1, h2⟩ := h
  refine ⟨sc, k.at h1 (by simp), fun j f hj => ?_⟩
  obtain ⟨a, cap, h3, h4⟩ := h2 j f hj
  exact ⟨a, cap, h3, h4.kp k⟩
theorem AllAt.get {A : Nat} {fs : List PFrame} {w : World} (h : AllAt A fs w) {k : Nat} {f : PFrame} (hk : fs[k]? = some f) :
    ∃ a cap, w.cell? ⟨A, k, none⟩ = some (.slice (some ⟨a, 0, none⟩) f.subs.length cap) ∧ RowAt a f.subs w := by
  obtain ⟨sc, h1, h2⟩ := h
  obtain ⟨a, cap, h3, h4⟩ := h2 k f hk
  exact ⟨a, cap, (Lib.cell_of_heap h1 _).trans h3, h4⟩

/-! ### The encoder's data -/

/-- The cells of a channel as impl is given it. -/
def PSub.ic (s : PSub) (g cap P pcap : Nat) : List Value := [.int .i64 s.kind, .int .i64 s.ord, .int .i64 0, .slice (some ⟨g, 0, none⟩) s.smp.length cap, .slice none 0 0, .int .i64 0, .int .i64 0, .int .i64 s.parts, .slice (some ⟨P, 0, none⟩) s.pars.length pcap]
def SubsAt (Y : Nat) (ss : List PSub) (w : World) : Prop :=
  ∃ sc : Array Value, w.heap[Y]? = some (.cells sc 52 (0, 0)) ∧ ∀ (c : Nat) (s : PSub), ss[c]? = some s → ∃ g cap P pcap, s.smp.length ≤ cap ∧ GSub s g P w ∧ ∀ (j : Nat) v, (s.ic g cap P pcap)[j]? = some v → sc[c * 9 + j]? = some v
theorem SubsAt.kp {Y : Nat} {ss : List PSub} {w w' : World} (h : SubsAt Y ss w) (k : Kp [] w w') : SubsAt Y ss w' := by
  obtain ⟨sc, h1, h2⟩ := h
  refine ⟨sc, k.at h1 (by simp), fun c s hc => ?_⟩
  obtain ⟨g, cap, P, pcap, h3, h4, h5⟩ := h2 c s hc
  exact ⟨g, cap, P, pcap, h3, h4.kp k (by simp) (by simp), h5⟩
theorem SubsAt.get {Y : Nat} {ss : List PSub} {w : World} (h : SubsAt Y ss w) {c : Nat} {s : PSub} (hc : ss[c]? = some s) :
    ∃ g cap P pcap, s.smp.length ≤ cap ∧ GSub s g P w ∧ ∀ (j : Nat) v, (s.ic g cap P pcap)[j]? = some v → w.cell? ⟨Y, c * 9 + j, none⟩ = some v := by
  obtain ⟨sc, h1, h2⟩ := h
  obtain ⟨g, cap, P, pcap, h3, h4, h5⟩ := h2 c s hc
  exact ⟨g, cap, P, pcap, h3, h4, fun j v hj => (Lib.cell_of_heap h1 _).trans (h5 j v hj)⟩

/-- The cells of a frame as impl is given it. -/
def PFrame.ic (f : PFrame) (Y ycap : Nat) : List Value := [.bool f.varies, .int .i64 f.size, .int .i64 f.rate, .int .i64 f.assign, .int .i64 f.bits, .int .u64 0, .slice (some ⟨Y, 0, none⟩) f.subs.length ycap]
def FramesAt (F : Nat) (fs : List PFrame) (w : World) : Prop :=
  ∃ sc : Array Value, w.heap[F]? = some (.cells sc 46 (0, 0)) ∧ ∀ (k : Nat) (f : PFrame), fs[k]? = some f → ∃ Y ycap, SubsAt Y f.subs w ∧ ∀ (j : Nat) v, (f.ic Y ycap)[j]? = some v → sc[k * 7 + j]? = some v
theorem FramesAt.kp {F : Nat} {fs : List PFrame} {w w' : World} (h : FramesAt F fs w) (k : Kp [] w w') : FramesAt F fs w' := by
  obtain ⟨sc, h1, h2⟩ := h
  refine ⟨sc, k.at h1 (by simp), fun c s hc => ?_⟩
  obtain ⟨Y, ycap, h3, h4⟩ := h2 c s hc
  exact ⟨Y, ycap, h3.kp k, h4⟩
theorem FramesAt.get {F : Nat} {fs : List PFrame} {w : World} (h : FramesAt F fs w) {k : Nat} {f : PFrame} (hk : fs[k]? = some f) :
    ∃ Y ycap, SubsAt Y f.subs w ∧ ∀ (j : Nat) v, (f.ic Y ycap)[j]? = some v → w.cell? ⟨F, k * 7 + j, none⟩ = some v := by
  obtain ⟨sc, h1, h2⟩ := h
  obtain ⟨Y, ycap, h3, h4⟩ := h2 k f hk
  exact ⟨Y, ycap, h3, fun j v hj => (Lib.cell_of_heap h1 _).trans (h4 j v hj)⟩

/-- Two bytes, written. -/
theorem wrB_two (o : List UInt8) (c : Nat) (h : c < 65536) : wrB (o, []) (bitsN (c : Int) 16) = (o ++ [UInt8.ofNat (c / 256), UInt8.ofNat (c % 256)], []) := by
  have e : bitsN (c : Int) 16 = bitsN (((UInt8.ofNat (c / 256)).toNat : Nat) : Int) 8 ++ bitsN (((UInt8.ofNat (c % 256)).toNat : Nat) : Int) 8 := by
    rw [show (16 : Nat) = 8 + 8 from rfl, bitsN_split, UInt8.toNat_ofNat', UInt8.toNat_ofNat', Nat.mod_eq_of_lt (by omega), Nat.mod_eq_of_lt (by omega)]
    rw [← bitsN_mod (c : Int) 8 8 (Nat.le_refl _)]
    rfl
  rw [e, wrB_append, wrB_byte, wrB_byte, List.append_assoc]
  rfl

theorem padB_eq (s : List UInt8 × List Bool) (h : s.2.length < 8) : padB s = List.replicate ((8 - s.2.length) % 8) false := by
  unfold padB
  split
  · rename_i h0
    rw [h0]; rfl
  · rw [Nat.mod_eq_of_lt (by omega)]
end Go.Proofs.YtemcpcgcnjahjaaGreatDoor
