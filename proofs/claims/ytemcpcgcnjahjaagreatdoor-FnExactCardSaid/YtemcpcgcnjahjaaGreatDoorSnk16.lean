/-
  A sum and a buffer under a multiWriter, as one writer.
-/
import Derived.Test.YtemcpcgcnjahjaaGreatDoorMulti
namespace Go.Proofs.YtemcpcgcnjahjaaGreatDoor
open Go.RowKit

/-- A multiWriter in block M, its writers in row R. -/
def MAt (M R rc : Nat) (xs : List Value) (w : World) : Prop :=
  w.heap[M]? = some (.cells #[.slice (some ⟨R, 0, none⟩) xs.length rc] 201 (0, 0)) ∧ ∃ cur, w.heap[R]? = some (.cells cur 100 (0, 0)) ∧ ∀ (j : Nat) (x : Value), xs[j]? = some x → cur[j]? = some x

theorem MultiOf.at {B M : Nat} {xs : List Value} {w : World} (h : MultiOf B M xs w) (hx : 0 < xs.length) : ∃ R rc, B ≤ R ∧ MAt M R rc xs w := by
  obtain ⟨v, hM, hown⟩ := h
  rcases hown.2 with ⟨_, h0⟩ | ⟨g, cap, cur, rfl, hb, hg, hnc, _, hcs, htk⟩
  · omega
  · refine ⟨g, cap, hb, hM, cur, hg, fun j x hj => ?_⟩
    rw [← htk, List.getElem?_take] at hj
    split at hj
    · simpa using hj
    · cases hj

theorem MAt.kp {M R rc : Nat} {xs : List Value} {w w' : World} {L : List Nat} (h : MAt M R rc xs w) (k : Kp L w w') (h1 : M ∉ L) (h2 : R ∉ L) : MAt M R rc xs w' := by
  obtain ⟨hM, cur, hR, hx⟩ := h
  exact ⟨k.at hM h1, cur, k.at hR h2, hx⟩
theorem MAt.fr {B M R rc : Nat} {xs : List Value} {w w' : World} {L : List Nat} (h : MAt M R rc xs w) (k : Fr B L w w') (h1 : M ∉ L) (h2 : R ∉ L) : MAt M R rc xs w' := by
  obtain ⟨hM, cur, hR, hx⟩ := h
  exact ⟨k.at hM h1 (by decide), cur, k.at hR h2 (by decide), hx⟩

/-- Blocks of cells of two types are two. -/
theorem ne_of_types {w : World} {a b : Nat} {c d : Array Value} {T U : TypeId} {f g : Nat × Nat} (h : w.heap[a]? = some (.cells c T f)) (k : w.heap[b]? = some (.cells d U g)) (hn : T ≠ U) : a ≠ b := by
  rintro rfl
  rw [h] at k
  simp at k
  exact hn k.2.1

theorem Buf.block {B b : Nat} {bs : List UInt8} {w : World} (h : Buf B b bs w) : ∃ c, w.heap[b]? = some (.cells c 56 (0, 0)) := by
  obtain ⟨_, v, lr, hb, _⟩ := h
  exact ⟨_, hb⟩

/-- The state of a sum and a buffer under a multiWriter: x bytes summed, y bytes written. -/
def Q16 (B D T b M R rc : Nat) (pre : List UInt8) (x y : List UInt8) (w : World) : Prop :=
  (B ≤ w.heap.size ∧ B ≤ M ∧ B ≤ R ∧ B ≤ D ∧ B ≤ T) ∧ MAt M R rc [.iface 241 (.pointer (some ⟨D, 0, none⟩)), .iface 62 (.pointer (some ⟨b, 0, none⟩))] w ∧ D16 D T (crc16 x) w ∧ Buf B b (pre ++ y) w

theorem Q16.kp {B D T b M R rc : Nat} {pre x y : List UInt8} {w w' : World} {L : List Nat} (h : Q16 B D T b M R rc pre x y w) (k : Kp L w w') (hL : ∀ k ∈ L, k ∉ [M, R, D, T, b] ∧ NoRow w k) : Q16 B D T b M R rc pre x y w' := by
  obtain ⟨h1, h2, h3, h4⟩ := h
  have hn : ∀ i, i ∈ [M, R, D, T, b] → i ∉ L := fun i hi hm => (hL i hm).1 hi
  exact ⟨⟨Nat.le_trans h1.1 k.size, h1.2⟩, h2.kp k (hn M (by simp)) (hn R (by simp)), h3.kp k (hn D (by simp)) (hn T (by simp)), h4.kp k fun i hi => ⟨fun e => (hL i hi).1 (by simp [e]), (hL i hi).2⟩⟩

theorem Q16.sum {B D T b M R rc : Nat} {pre x x' y : List UInt8} {w w' : World} (h : Q16 B D T b M R rc pre x y w) (k : Kp [D] w w') (hD : D16 D T (crc16 x') w') : Q16 B D T b M R rc pre x' y w' := by
  obtain ⟨h1, h2, h3, h4⟩ := h
  have e1 : M ≠ D := ne_of_types h2.1 h3.1 (by decide)
  obtain ⟨cur, hR, hx⟩ := h2.2
  have e2 : R ≠ D := ne_of_types hR h3.1 (by decide)
  obtain ⟨c, hb⟩ := h4.block
  have e3 : D ≠ b := ne_of_types h3.1 hb (by decide)
  exact ⟨⟨Nat.le_trans h1.1 k.size, h1.2⟩, h2.kp k (by simpa using e1) (by simpa using e2), hD, h4.kp k fun i hi => by
    obtain rfl : i = D := by simpa using hi
    exact ⟨e3, noRow_of h3.1 (by decide)⟩⟩

theorem Q16.buf {B D T b M R rc : Nat} {pre x y y' : List UInt8} {w w' : World} (h : Q16 B D T b M R rc pre x y w) (k : Fr B [b] w w') (hB : Buf B b (pre ++ y') w') : Q16 B D T b M R rc pre x y' w' := by
  obtain ⟨h1, h2, h3, h4⟩ := h
  obtain ⟨cur, hR, hx⟩ := h2.2
  obtain ⟨c, hb⟩ := h4.block
  have e1 : M ≠ b := ne_of_types h2.1 hb (by decide)
  have e2 : R ≠ b := ne_of_types hR hb (by decide)
  have e3 : D ≠ b := ne_of_types h3.1 hb (by decide)
  have e4 : T ≠ b := ne_of_types h3.2.1 hb (by decide)
  exact ⟨⟨Nat.le_trans h1.1 k.size, h1.2⟩, h2.fr k (by simpa using e1) (by simpa using e2), h3.fr k (by simpa using e3) (by simpa using e4), hB⟩

theorem Q16.live {B D T b M R rc : Nat} {pre x y : List UInt8} {w : World} (h : Q16 B D T b M R rc pre x y w) : B ≤ w.heap.size ∧ ∀ k ∈ [M, R, D, T, b], B ≤ k ∧ k < w.heap.size ∧ NoRow w k := by
  obtain ⟨h1, h2, h3, h4⟩ := h
  obtain ⟨cur, hR, hx⟩ := h2.2
  refine ⟨h1.1, fun k hk => ?_⟩
  simp at hk
  rcases hk with rfl | rfl | rfl | rfl | rfl
  · exact ⟨h1.2.1, Lib.lt_of_heap h2.1, noRow_of h2.1 (by decide)⟩
  · exact ⟨h1.2.2.1, Lib.lt_of_heap hR, noRow_of hR (by decide)⟩
  · exact ⟨h1.2.2.2.1, Lib.lt_of_heap h3.1, noRow_of h3.1 (by decide)⟩
  · exact ⟨h1.2.2.2.2, Lib.lt_of_heap h3.2.1, noRow_of h3.2.1 (by decide)⟩
  · exact h4.noRow

/-- The bytes that are handed on, as they lie in memory. -/
def Src (xb xo : Nat) (cs : List UInt8) (w : World) : Prop := ∀ j v, (Lib.byteCells cs)[j]? = some v → w.cell? ⟨xb, xo + j, none⟩ = some v
theorem Src.kp {xb xo : Nat} {cs : List UInt8} {w w' : World} {L : List Nat} (h : Src xb xo cs w) (k : Kp L w w') (hn : xb ∉ L) : Src xb xo cs w' := fun j v hj => by
  have hc := h j v hj
  have hlt : xb < w.heap.size := World.block_lt_of_cell? _ _ hc
  rw [World.cell?_of_block (w := w) (k.block xb hlt hn), hc]

def chain16 (B D T b M R rc : Nat) (pre : List UInt8) (hpre : pre.length ≤ 17592186044416) (bs : List UInt8) (xb xo n cap : Nat) (cs : List UInt8) (hn : cs.length = n) (hx : xb ∉ [M, R, D, T, b]) (hl : bs.length + n ≤ 70368744177664) (w0 : World) :
    Chain B [M, R, D, T, b] M 2 xb xo n cap w0 where
  R := R
  rcap := rc
  ts := fun i => if i = 0 then 241 else 62
  bl := fun i => if i = 0 then D else b
  fs := fun i => if i = 0 then 188 else 150
  Pr := fun i w => if i = 0 then Q16 B D T b M R rc pre bs bs w ∧ Src xb xo cs w else if i = 1 then Q16 B D T b M R rc pre (bs ++ cs) bs w ∧ Src xb xo cs w else Q16 B D T b M R rc pre (bs ++ cs) (bs ++ cs) w
  ahead := fun i _ w => by
    by_cases h : i = 0
    · simp only [h, if_true]; exact ahead_d16 _ _
    · simp only [h, if_false]; exact ahead_buf _ _
  look := fun i _ w => by
    by_cases h : i = 0
    · simp only [h, if_true]; exact look_d16 _ _
    · simp only [h, if_false]; exact look_buf _ _
  enter := fun i _ args w => by
    by_cases h : i = 0
    · simp only [h, if_true]; exact enter188 _ _
    · simp only [h, if_false]; exact enter150 _ _
  own := fun i w h => by
    have hq : ∃ x y, Q16 B D T b M R rc pre x y w := by
      split at h
      · exact ⟨_, _, h.1⟩
      · split at h
        · exact ⟨_, _, h.1⟩
        · exact ⟨_, _, h⟩
    obtain ⟨x, y, hq⟩ := hq
    rw [Lib.cell_of_heap hq.2.1.1]; rfl
  row := fun i w h j hj => by
    have hq : ∃ x y, Q16 B D T b M R rc pre x y w := by
      split at h
      · exact ⟨_, _, h.1⟩
      · split at h
        · exact ⟨_, _, h.1⟩
        · exact ⟨_, _, h⟩
    obtain ⟨x, y, hq⟩ := hq
    obtain ⟨cur, hR, hxs⟩ := hq.2.1.2
    rw [Lib.cell_of_heap hR]
    match j, hj with
    | 0, _ => exact hxs 0 _ rfl
    | 1, _ => exact hxs 1 _ rfl
  step := fun i hi w h => by
    match i, hi with
    | 0, _ =>
      simp only [if_true, Nat.zero_add] at h ⊢
      simp only [show ¬ (1 : Nat) = 0 by decide, if_false]
      obtain ⟨hq, hs⟩ := h
      have hl1 := hq.live
      refine (write16 D T (crc16 bs) xb xo n cap cs w hq.2.2.1 hn (by omega) hs).mono ?_
      rintro e w' ⟨rfl, hD, hk⟩
      refine ⟨rfl, ⟨hq.sum hk (by rw [crc16_append]; exact hD), hs.kp hk (fun hm => hx (by simp at hm; simp [hm]))⟩, (hk.fr hl1.1 (fun k hk => (hl1.2 k (by simp at hk; simp [hk])).1)).mono (Nat.le_refl _) (fun k _ hm => by simp at hm; simp [hm])⟩
    | 1, _ =>
      simp only [show ¬ (1 : Nat) = 0 by decide, if_true, if_false] at h ⊢
      simp only [show ¬ (1 + 1 : Nat) = 0 by decide, show ¬ (1 + 1 : Nat) = 1 by decide, if_false]
      obtain ⟨hq, hs⟩ := h
      refine (bufWrite xb xo n cap cs hq.2.2.2 hq.live.1 hn (fun e => hx (by simp [e])) hs (by rw [List.length_append]; omega)).mono ?_
      rintro e w' ⟨rfl, hB, hf⟩
      exact ⟨rfl, hq.buf hf (by rw [← List.append_assoc]; exact hB), hf.mono (Nat.le_refl _) (fun k _ hm => by simp at hm; simp [hm])⟩

/-- A sum and a buffer under a multiWriter, as a writer. -/
def snk16 (B D T b M R rc : Nat) (pre : List UInt8) (hpre : pre.length ≤ 17592186044416) : Snk B where
  t := 198
  a := M
  f := 180
  S := [M, R, D, T, b]
  I := fun w bs => Q16 B D T b M R rc pre bs bs w
  ahead := ahead_multi _
  look := look_multi _
  enter := enter180
  live := fun h => h.live
  stable := fun h k hL => h.kp k hL
  write := fun xb xo n c cs h hn hx hc hl => by
    refine (multiWrite (chain16 B D T b M R rc pre hpre _ xb xo n c cs hn hx hl _) (by decide) ⟨h, hc⟩).mono ?_
    rintro e w' ⟨rfl, h1, h2⟩
    exact ⟨rfl, h1, h2⟩
end Go.Proofs.YtemcpcgcnjahjaaGreatDoor
/-
  The sum of a header beside them, as one writer.
-/
namespace Go.Proofs.YtemcpcgcnjahjaaGreatDoor
open Go.RowKit

/-- The state of a header's sum above a frame's: z bytes summed by the header's, x by the frame's, y written. -/
def Q8 (B D T b M R rc d t m r rd : Nat) (pre : List UInt8) (z x y : List UInt8) (w : World) : Prop :=
  (B ≤ m ∧ B ≤ r ∧ B ≤ d ∧ B ≤ t) ∧ MAt m r rd [.iface 261 (.pointer (some ⟨d, 0, none⟩)), .iface 241 (.pointer (some ⟨D, 0, none⟩)), .iface 62 (.pointer (some ⟨b, 0, none⟩))] w ∧ D8 d t (crc8 z) w ∧ Q16 B D T b M R rc pre x y w

theorem Q8.kp {B D T b M R rc d t m r rd : Nat} {pre z x y : List UInt8} {w w' : World} {L : List Nat} (h : Q8 B D T b M R rc d t m r rd pre z x y w) (k : Kp L w w') (hL : ∀ k ∈ L, k ∉ [m, r, d, t, M, R, D, T, b] ∧ NoRow w k) : Q8 B D T b M R rc d t m r rd pre z x y w' := by
  obtain ⟨h1, h2, h3, h4⟩ := h
  have hn : ∀ i, i ∈ [m, r, d, t, M, R, D, T, b] → i ∉ L := fun i hi hm => (hL i hm).1 hi
  exact ⟨h1, h2.kp k (hn m (by simp)) (hn r (by simp)), h3.kp k (hn d (by simp)) (hn t (by simp)), h4.kp k fun i hi => ⟨fun e => (hL i hi).1 (by simp at e; simp [e]), (hL i hi).2⟩⟩

theorem Q8.sum {B D T b M R rc d t m r rd : Nat} {pre z z' x y : List UInt8} {w w' : World} (h : Q8 B D T b M R rc d t m r rd pre z x y w) (k : Kp [d] w w') (hD : D8 d t (crc8 z') w') : Q8 B D T b M R rc d t m r rd pre z' x y w' := by
  obtain ⟨h1, h2, h3, h4⟩ := h
  have e1 : m ≠ d := ne_of_types h2.1 h3.1 (by decide)
  obtain ⟨cur, hR, hx⟩ := h2.2
  have e2 : r ≠ d := ne_of_types hR h3.1 (by decide)
  obtain ⟨cur2, hR2, -⟩ := h4.2.1.2
  obtain ⟨c, hb⟩ := h4.2.2.2.block
  have f1 : d ≠ M := ne_of_types h3.1 h4.2.1.1 (by decide)
  have f2 : d ≠ R := ne_of_types h3.1 hR2 (by decide)
  have f3 : d ≠ D := ne_of_types h3.1 h4.2.2.1.1 (by decide)
  have f4 : d ≠ T := ne_of_types h3.1 h4.2.2.1.2.1 (by decide)
  have f5 : d ≠ b := ne_of_types h3.1 hb (by decide)
  exact ⟨h1, h2.kp k (by simpa using e1) (by simpa using e2), hD, h4.kp k fun i hi => by
    obtain rfl : i = d := by simpa using hi
    exact ⟨by simp [f1, f2, f3, f4, f5], noRow_of h3.1 (by decide)⟩⟩

theorem Q8.sum2 {B D T b M R rc d t m r rd : Nat} {pre z x x' y : List UInt8} {w w' : World} (h : Q8 B D T b M R rc d t m r rd pre z x y w) (k : Kp [D] w w') (hD : D16 D T (crc16 x') w') : Q8 B D T b M R rc d t m r rd pre z x' y w' := by
  obtain ⟨h1, h2, h3, h4⟩ := h
  obtain ⟨cur, hR, hx⟩ := h2.2
  have e1 : m ≠ D := ne_of_types h2.1 h4.2.2.1.1 (by decide)
  have e2 : r ≠ D := ne_of_types hR h4.2.2.1.1 (by decide)
  have e3 : d ≠ D := ne_of_types h3.1 h4.2.2.1.1 (by decide)
  have e4 : t ≠ D := ne_of_types h3.2.1 h4.2.2.1.1 (by decide)
  exact ⟨h1, h2.kp k (by simpa using e1) (by simpa using e2), h3.kp k (by simpa using e3) (by simpa using e4), h4.sum k hD⟩

theorem Q8.buf {B D T b M R rc d t m r rd : Nat} {pre z x y y' : List UInt8} {w w' : World} (h : Q8 B D T b M R rc d t m r rd pre z x y w) (k : Fr B [b] w w') (hB : Buf B b (pre ++ y') w') : Q8 B D T b M R rc d t m r rd pre z x y' w' := by
  obtain ⟨h1, h2, h3, h4⟩ := h
  obtain ⟨cur, hR, hx⟩ := h2.2
  obtain ⟨c, hb⟩ := h4.2.2.2.block
  have e1 : m ≠ b := ne_of_types h2.1 hb (by decide)
  have e2 : r ≠ b := ne_of_types hR hb (by decide)
  have e3 : d ≠ b := ne_of_types h3.1 hb (by decide)
  have e4 : t ≠ b := ne_of_types h3.2.1 hb (by decide)
  exact ⟨h1, h2.fr k (by simpa using e1) (by simpa using e2), h3.fr k (by simpa using e3) (by simpa using e4), h4.buf k hB⟩

theorem Q8.live {B D T b M R rc d t m r rd : Nat} {pre z x y : List UInt8} {w : World} (h : Q8 B D T b M R rc d t m r rd pre z x y w) : B ≤ w.heap.size ∧ ∀ k ∈ [m, r, d, t, M, R, D, T, b], B ≤ k ∧ k < w.heap.size ∧ NoRow w k := by
  obtain ⟨h1, h2, h3, h4⟩ := h
  obtain ⟨cur, hR, hx⟩ := h2.2
  refine ⟨h4.live.1, fun k hk => ?_⟩
  have h5 := h4.live.2 k
  simp at hk h5
  rcases hk with rfl | rfl | rfl | rfl | hk
  · exact ⟨h1.1, Lib.lt_of_heap h2.1, noRow_of h2.1 (by decide)⟩
  · exact ⟨h1.2.1, Lib.lt_of_heap hR, noRow_of hR (by decide)⟩
  · exact ⟨h1.2.2.1, Lib.lt_of_heap h3.1, noRow_of h3.1 (by decide)⟩
  · exact ⟨h1.2.2.2, Lib.lt_of_heap h3.2.1, noRow_of h3.2.1 (by decide)⟩
  · exact h5 hk

def P8 (B D T b M R rc d t m r rd : Nat) (pre bs cs : List UInt8) (xb xo : Nat) (i : Nat) (w : World) : Prop :=
  Q8 B D T b M R rc d t m r rd pre (if i < 1 then bs else bs ++ cs) (if i < 2 then bs else bs ++ cs) (if i < 3 then bs else bs ++ cs) w ∧ (i < 3 → Src xb xo cs w)

def chain8 (B D T b M R rc d t m r rd : Nat) (pre : List UInt8) (hpre : pre.length ≤ 17592186044416) (bs : List UInt8) (xb xo n cap : Nat) (cs : List UInt8) (hn : cs.length = n) (hx : xb ∉ [m, r, d, t, M, R, D, T, b]) (hl : bs.length + n ≤ 70368744177664) (w0 : World) :
    Chain B [m, r, d, t, M, R, D, T, b] m 3 xb xo n cap w0 where
  R := r
  rcap := rd
  ts := fun i => if i = 0 then 261 else if i = 1 then 241 else 62
  bl := fun i => if i = 0 then d else if i = 1 then D else b
  fs := fun i => if i = 0 then 195 else if i = 1 then 188 else 150
  Pr := P8 B D T b M R rc d t m r rd pre bs cs xb xo
  ahead := fun i _ w => by
    by_cases h : i = 0
    · simp only [h, if_true]; exact ahead_d8 _ _
    · by_cases h1 : i = 1
      · simp only [h1, if_true, show ¬ (1 : Nat) = 0 by decide, if_false]; exact ahead_d16 _ _
      · simp only [h, h1, if_false]; exact ahead_buf _ _
  look := fun i _ w => by
    by_cases h : i = 0
    · simp only [h, if_true]; exact look_d8 _ _
    · by_cases h1 : i = 1
      · simp only [h1, if_true, show ¬ (1 : Nat) = 0 by decide, if_false]; exact look_d16 _ _
      · simp only [h, h1, if_false]; exact look_buf _ _
  enter := fun i _ args w => by
    by_cases h : i = 0
    · simp only [h, if_true]; exact enter195 _ _
    · by_cases h1 : i = 1
      · simp only [h1, if_true, show ¬ (1 : Nat) = 0 by decide, if_false]; exact enter188 _ _
      · simp only [h, h1, if_false]; exact enter150 _ _
  own := fun i w h => by
    rw [Lib.cell_of_heap h.1.2.1.1]; rfl
  row := fun i w h j hj => by
    obtain ⟨cur, hR, hxs⟩ := h.1.2.1.2
    rw [Lib.cell_of_heap hR]
    match j, hj with
    | 0, _ => exact hxs 0 _ rfl
    | 1, _ => exact hxs 1 _ rfl
    | 2, _ => exact hxs 2 _ rfl
  step := fun i hi w h => by
    have hl1 := h.1.live
    match i, hi with
    | 0, _ =>
      obtain ⟨hq, hs⟩ := h
      refine (write8 d t (crc8 bs) xb xo n cap cs w hq.2.2.1 hn (by omega) (hs (by omega))).mono ?_
      rintro e w' ⟨rfl, hD, hk⟩
      refine ⟨rfl, ⟨hq.sum hk (by rw [if_neg (by omega), crc8_append]; exact hD), fun _ => (hs (by omega)).kp hk (fun hm => hx (by simp at hm; simp [hm]))⟩, (hk.fr hl1.1 (fun k hk => (hl1.2 k (by simp at hk; simp [hk])).1)).mono (Nat.le_refl _) (fun k _ hm => by simp at hm; simp [hm])⟩
    | 1, _ =>
      obtain ⟨hq, hs⟩ := h
      refine (write16 D T (crc16 bs) xb xo n cap cs w hq.2.2.2.2.2.1 hn (by omega) (hs (by omega))).mono ?_
      rintro e w' ⟨rfl, hD, hk⟩
      refine ⟨rfl, ⟨hq.sum2 hk (by rw [if_neg (by omega), crc16_append]; exact hD), fun _ => (hs (by omega)).kp hk (fun hm => hx (by simp at hm; simp [hm]))⟩, (hk.fr hl1.1 (fun k hk => (hl1.2 k (by simp at hk; simp [hk])).1)).mono (Nat.le_refl _) (fun k _ hm => by simp at hm; simp [hm])⟩
    | 2, _ =>
      obtain ⟨hq, hs⟩ := h
      refine (bufWrite xb xo n cap cs hq.2.2.2.2.2.2 hl1.1 hn (fun e => hx (by simp [e])) (hs (by omega)) (by rw [if_pos (by omega), List.length_append]; omega)).mono ?_
      rintro e w' ⟨rfl, hB, hf⟩
      refine ⟨rfl, ⟨hq.buf hf (by rw [if_neg (by omega)]; rw [if_pos (by omega), List.append_assoc] at hB; exact hB), fun h => absurd h (by omega)⟩, hf.mono (Nat.le_refl _) (fun k _ hm => by simp at hm; simp [hm])⟩

/-- The three, as a writer. -/
def snk8 (B D T b M R rc d t m r rd : Nat) (pre : List UInt8) (hpre : pre.length ≤ 17592186044416) : Snk B where
  t := 198
  a := m
  f := 180
  S := [m, r, d, t, M, R, D, T, b]
  I := fun w bs => Q8 B D T b M R rc d t m r rd pre bs bs bs w
  ahead := ahead_multi _
  look := look_multi _
  enter := enter180
  live := fun h => h.live
  stable := fun h k hL => h.kp k hL
  write := fun xb xo n c cs h hn hx hc hl => by
    refine (multiWrite (chain8 B D T b M R rc d t m r rd pre hpre _ xb xo n c cs hn hx hl _) (by decide) ⟨h, fun _ => hc⟩).mono ?_
    rintro e w' ⟨rfl, h1, h2⟩
    exact ⟨rfl, h1.1, h2⟩
end Go.Proofs.YtemcpcgcnjahjaaGreatDoor
