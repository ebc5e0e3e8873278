/-
  Pushes onto the rows of streamOf.
-/
import Derived.Test.YtemcpcgcnjahjaaGreatDoorGenD
import Derived.Test.YtemcpcgcnjahjaaGreatDoorGenE
import Derived.Test.YtemcpcgcnjahjaaGreatDoorSpecK
namespace Go.Proofs.YtemcpcgcnjahjaaGreatDoor
open Go.RowKit

/-- Channels of so many samples, each within T. -/
def ChansT (T : Int) (c n a : Nat) (w : World) : Prop := ∃ sc : Array Value, w.heap[a]? = some (.cells sc 48 (0, 0)) ∧ ∀ j, j < c → ∃ g cap xs, sc[j]? = some (.slice (some ⟨g, 0, none⟩) n cap) ∧ xs.length = n ∧ (∀ x ∈ xs, -T ≤ x ∧ x < T) ∧ IntAt g xs w
theorem ChansT.at {T : Int} {c n a : Nat} {w : World} (h : ChansT T c n a w) (hT : T ≤ 8388608) : ChansAt c n a w := by
  obtain ⟨sc, h1, h2⟩ := h
  refine ⟨sc, h1, fun j hj => ?_⟩
  obtain ⟨g, cap, xs, h3, h4, h5, h6⟩ := h2 j hj
  exact ⟨g, cap, h3, xs, h4, fun x hx => by have := h5 x hx; omega, h6⟩
theorem ChansT.kp {T : Int} {c n a : Nat} {w w' : World} (h : ChansT T c n a w) (k : Kp [] w w') : ChansT T c n a w' := by
  obtain ⟨sc, h1, h2⟩ := h
  refine ⟨sc, k.at h1 (by simp), fun j hj => ?_⟩
  obtain ⟨g, cap, xs, h3, h4, h5, h6⟩ := h2 j hj
  exact ⟨g, cap, xs, h3, h4, h5, h6.kp k (by simp)⟩
theorem ChansT.kpT {T : Int} {c n a : Nat} {w w' : World} {L Ts : List Nat} (h : ChansT T c n a w) (k : Kp L w w') (hT : OfTy w L Ts) (hd : 48 ∉ Ts ∧ 3 ∉ Ts) : ChansT T c n a w' := by
  obtain ⟨sc, h1, h2⟩ := h
  refine ⟨sc, k.at h1 (hT.not h1 hd.1), fun j hj => ?_⟩
  obtain ⟨g, cap, xs, h3, h4, h5, h6⟩ := h2 j hj
  exact ⟨g, cap, xs, h3, h4, h5, h6.kpT k hT hd.2⟩

/-- What is the same of all frames. -/
structure RawP where
  va : Bool
  rate : Nat
  assign : Nat
  bits : Nat
structure RawP.Ok (r : RawP) : Prop where
  rate : RateOk r.rate
  assign : r.assign < 8
  bits : BpsOk r.bits
def RawP.top (r : RawP) : Int := 2 ^ (r.bits - 1)
theorem RawP.Ok.top {r : RawP} (h : r.Ok) : (128 : Int) ≤ r.top ∧ r.top ≤ 8388608 := by
  have h := h.bits
  unfold BpsOk at h
  unfold RawP.top
  have h' : r.bits = 8 ∨ r.bits = 12 ∨ r.bits = 16 ∨ r.bits = 20 ∨ r.bits = 24 := by omega
  rcases h' with e | e | e | e | e <;> rw [e] <;> decide

/-- The cells of a header, but for its rate and its number. -/
def rawCells (r : RawP) (n : Nat) (rt : Int) (num : Nat) : List Value := [.bool r.va, .int .i64 n, .int .i64 rt, .int .i64 r.assign, .int .i64 r.bits, .int .u64 num]
def HeadsR (r : RawP) (ns : List Nat) (v : Value) (B : Nat) (w : World) : Prop :=
  ∃ g cap cells, v = .slice (some ⟨g, 0, none⟩) ns.length cap ∧ w.ownsRow B 43 6 v ns.length cells ∧ ∀ (k n : Nat), ns[k]? = some n → ∃ rt num, ∀ (j : Nat) u, (rawCells r n rt num)[j]? = some u → cells[k * 6 + j]? = some u
def AllR (r : RawP) (ns : List Nat) (v : Value) (B : Nat) (w : World) : Prop :=
  ∃ g cap rows, v = .slice (some ⟨g, 0, none⟩) ns.length cap ∧ w.ownsRow B 47 1 v ns.length rows ∧ ∀ (k n : Nat), ns[k]? = some n → ∃ a acap, rows[k]? = some (.slice (some ⟨a, 0, none⟩) (r.assign + 1) acap) ∧ ChansT r.top (r.assign + 1) n a w

theorem nats_snoc (ns : List Nat) (n k m : Nat) (h : (ns ++ [n])[k]? = some m) : ns[k]? = some m ∨ (k = ns.length ∧ m = n) := by
  rcases Nat.lt_or_ge k ns.length with hl | hl
  · rw [List.getElem?_append_left hl] at h
    exact .inl h
  · rw [List.getElem?_append_right hl] at h
    right
    rcases Nat.eq_zero_or_pos (k - ns.length) with h0 | h0
    · rw [h0] at h
      simp at h
      exact ⟨by omega, h.symm⟩
    · rw [List.getElem?_eq_none (by simp; omega)] at h
      cases h

theorem HeadsR.push {r : RawP} {ns : List Nat} {n g cap g5 cap5 num B : Nat} {rt : Int} {wr w3 : World} {O : Obj} {cells : List Value} (hown : wr.ownsRow B 43 6 (.slice (some ⟨g, 0, none⟩) ns.length cap) ns.length cells)
    (hc : ∀ (k n : Nat), ns[k]? = some n → ∃ rt num, ∀ (j : Nat) u, (rawCells r n rt num)[j]? = some u → cells[k * 6 + j]? = some u)
    (hgrow : (wr.alloc O).grownBy w3 (Value.slice (some ⟨g, 0, none⟩) ns.length cap).ownBlock)
    (hown3 : w3.ownsRow B 43 6 (.slice (some ⟨g5, 0, none⟩) (ns.length + 1) cap5) (ns.length + 1) (cells ++ rawCells r n rt num)) :
    HeadsR r (ns ++ [n]) (.slice (some ⟨g5, 0, none⟩) (ns.length + 1) cap5) B w3 ∧ Kp [g] wr w3 ∧ B ≤ g ∧ OfTy wr [g] [43] := by
  obtain ⟨k1, _, hb⟩ := growKp (hown.alloc O) hgrow
  have ty : OfTy wr [g] [43] := by
    obtain ⟨_, cur, h, _⟩ := ownsRow_at hown
    exact one_ty h
  have k2 : Kp [g] wr w3 := ((Kp.alloc [] wr O).mono (by simp)).trans (k1.mono (by intro j _ hj; simpa [Value.ownBlock] using hj))
  have hl := hown.1
  refine ⟨⟨g5, cap5, cells ++ rawCells r n rt num, by rw [List.length_append]; rfl, by rw [List.length_append]; exact hown3, fun k m hk => ?_⟩, k2, hb g (by simp [Value.ownBlock]), ty⟩
  rcases nats_snoc ns n k m hk with h | ⟨rfl, rfl⟩
  · obtain ⟨rt', num', h2⟩ := hc k m h
    refine ⟨rt', num', fun j u hj => ?_⟩
    have h3 := h2 j u hj
    rw [List.getElem?_append_left (List.getElem?_eq_some_iff.1 h3).1]
    exact h3
  · refine ⟨rt, num, fun j u hj => ?_⟩
    rw [List.getElem?_append_right (by omega), hl, Nat.add_sub_cancel_left]
    exact hj

theorem AllR.push {r : RawP} {ns : List Nat} {n g cap g5 cap5 a acap B : Nat} {wr w3 : World} {O : Obj} {rows : List Value} (hown : wr.ownsRow B 47 1 (.slice (some ⟨g, 0, none⟩) ns.length cap) ns.length rows)
    (hc : ∀ (k n : Nat), ns[k]? = some n → ∃ a acap, rows[k]? = some (.slice (some ⟨a, 0, none⟩) (r.assign + 1) acap) ∧ ChansT r.top (r.assign + 1) n a wr)
    (hn : ChansT r.top (r.assign + 1) n a wr)
    (hgrow : (wr.alloc O).grownBy w3 (Value.slice (some ⟨g, 0, none⟩) ns.length cap).ownBlock)
    (hown3 : w3.ownsRow B 47 1 (.slice (some ⟨g5, 0, none⟩) (ns.length + 1) cap5) (ns.length + 1) (rows ++ [.slice (some ⟨a, 0, none⟩) (r.assign + 1) acap])) :
    AllR r (ns ++ [n]) (.slice (some ⟨g5, 0, none⟩) (ns.length + 1) cap5) B w3 ∧ Kp [g] wr w3 ∧ B ≤ g ∧ OfTy wr [g] [47] := by
  obtain ⟨k1, _, hb⟩ := growKp (hown.alloc O) hgrow
  have ty : OfTy wr [g] [47] := by
    obtain ⟨_, cur, h, _⟩ := ownsRow_at hown
    exact one_ty h
  have k2 : Kp [g] wr w3 := ((Kp.alloc [] wr O).mono (by simp)).trans (k1.mono (by intro j _ hj; simpa [Value.ownBlock] using hj))
  have hl := hown.1
  refine ⟨⟨g5, cap5, rows ++ [.slice (some ⟨a, 0, none⟩) (r.assign + 1) acap], by rw [List.length_append]; rfl, by rw [List.length_append]; exact hown3, fun k m hk => ?_⟩, k2, hb g (by simp [Value.ownBlock]), ty⟩
  rcases nats_snoc ns n k m hk with h | ⟨rfl, rfl⟩
  · obtain ⟨a', acap', h2, h3⟩ := hc k m h
    refine ⟨a', acap', ?_, h3.kpT k2 ty (by decide)⟩
    rw [List.getElem?_append_left (List.getElem?_eq_some_iff.1 h2).1]
    exact h2
  · refine ⟨a, acap, ?_, hn.kpT k2 ty (by decide)⟩
    rw [List.getElem?_append_right (by omega), hl, Nat.mul_one, Nat.sub_self]
    rfl

theorem HeadsR.kpT {r : RawP} {ns : List Nat} {v : Value} {B : Nat} {w w' : World} {L Ts : List Nat} (h : HeadsR r ns v B w) (k : Kp L w w') (hT : OfTy w L Ts) (hd : 43 ∉ Ts) : HeadsR r ns v B w' := by
  obtain ⟨g, cap, cells, rfl, hown, hc⟩ := h
  exact ⟨g, cap, cells, rfl, ownsRow_kpT hown k hT hd, hc⟩
theorem AllR.kpT {r : RawP} {ns : List Nat} {v : Value} {B : Nat} {w w' : World} {L Ts : List Nat} (h : AllR r ns v B w) (k : Kp L w w') (hT : OfTy w L Ts) (hd : 47 ∉ Ts ∧ 48 ∉ Ts ∧ 3 ∉ Ts) : AllR r ns v B w' := by
  obtain ⟨g, cap, rows, rfl, hown, hc⟩ := h
  refine ⟨g, cap, rows, rfl, ownsRow_kpT hown k hT hd.1, fun j n hj => ?_⟩
  obtain ⟨a, acap, h1, h2⟩ := hc j n hj
  exact ⟨a, acap, h1, h2.kpT k hT hd.2⟩
end Go.Proofs.YtemcpcgcnjahjaaGreatDoor
