/-
  What the law gives is sound: plain numbers, and the rows that givenOf fills.
-/
import Derived.Test.YtemcpcgcnjahjaaGreatDoorGenG
namespace Go.Proofs.YtemcpcgcnjahjaaGreatDoor
open Go.RowKit

theorem getD_top {xs : List Int} {T : Int} (h : ∀ x ∈ xs, -T ≤ x ∧ x < T) (hT : 0 ≤ T) (j : Nat) : -T ≤ xs.getD j 0 ∧ xs.getD j 0 ≤ T := by
  rw [List.getD_eq_getElem?_getD]
  cases hj : xs[j]? with
  | none => simp; omega
  | some x => have := h x (List.mem_of_getElem? hj); simp; omega
theorem resid_top (o : Nat) (xs : List Int) (i : Nat) (T : Int) (h : ∀ x ∈ xs, -T ≤ x ∧ x < T) (hT : 0 ≤ T) (ho : o ≤ 4) : -(16 * T) ≤ resid (coefs o) xs i ∧ resid (coefs o) xs i ≤ 16 * T := by
  have g := getD_top h hT
  have g0 := g i
  have g1 := g (i - 0 - 1)
  have g2 := g (i - 1 - 1)
  have g3 := g (i - 2 - 1)
  have g4 := g (i - 3 - 1)
  rcases (by omega : o = 0 ∨ o = 1 ∨ o = 2 ∨ o = 3 ∨ o = 4) with rfl | rfl | rfl | rfl | rfl
  · have e : coefs 0 = [] := rfl
    simp only [resid, e, List.length_nil, accP]; omega
  · have e : coefs 1 = [1] := rfl
    simp only [resid, e, List.length_cons, List.length_nil, accP, List.getD_cons_zero]; omega
  · have e : coefs 2 = [2, -1] := rfl
    simp only [resid, e, List.length_cons, List.length_nil, accP, List.getD_cons_zero, List.getD_cons_succ]; omega
  · have e : coefs 3 = [3, -3, 1] := rfl
    simp only [resid, e, List.length_cons, List.length_nil, accP, List.getD_cons_zero, List.getD_cons_succ]; omega
  · have e : coefs 4 = [4, -6, 4, -1] := rfl
    simp only [resid, e, List.length_cons, List.length_nil, accP, List.getD_cons_zero, List.getD_cons_succ]; omega

theorem fold_few (x T : Int) (p : Nat) (K : Nat) (h1 : -(16 * T) ≤ x) (h2 : x ≤ 16 * T) (hK : 0 < K) (hp : (K : Int) ≤ 2 ^ p) (hT : 32 * T ≤ 100000 * K) : (foldI x / 2 ^ p).toNat ≤ 100000 := by
  have h3 : foldI x ≤ 32 * T := by unfold foldI; split <;> omega
  have h0 := foldI_nonneg x
  have hpp : (0 : Int) < 2 ^ p := by omega
  have h4 : foldI x / 2 ^ p ≤ 100000 := by
    apply Int.ediv_le_of_le_mul hpp
    have : (100000 : Int) * K ≤ 100000 * 2 ^ p := by omega
    omega
  omega

/-- The smallest number of a part. -/
def loOf (bits : Nat) : Nat := max (bits - 8) 4

/-- The numbers of the parts of a channel within its bounds. -/
theorem rests_ok (o : Nat) (xs : List Int) (bits : Nat) (ps : List Nat) (hb : BpsOk bits) (hb2 : bits ≤ 22) (h : ∀ x ∈ xs, -(2 ^ (bits - 1) : Int) ≤ x ∧ x < 2 ^ (bits - 1)) (ho : o ≤ 4)
    (hp : ∀ p ∈ ps, loOf bits ≤ p ∧ p ≤ 14) : RestsOk (rests o xs) ps := by
  have hbb : bits = 8 ∨ bits = 12 ∨ bits = 16 ∨ bits = 20 := by unfold BpsOk at hb; omega
  have hr : ∀ (T : Int), (∀ x ∈ xs, -T ≤ x ∧ x < T) → 0 ≤ T → ∀ x ∈ rests o xs, -(16 * T) ≤ x ∧ x ≤ 16 * T := fun T hT h0 x hx => by
    unfold rests at hx
    rw [List.mem_map] at hx
    obtain ⟨t, _, rfl⟩ := hx
    exact resid_top o xs _ T hT h0 ho
  have hpow : ∀ p q : Nat, q ≤ p → ((2 ^ q : Nat) : Int) ≤ 2 ^ p := fun p q hq => by
    have := Nat.pow_le_pow_right (show 0 < 2 by decide) hq
    exact_mod_cast this
  rcases hbb with rfl | rfl | rfl | rfl
  · have hr := hr 128 h (by decide)
    refine ⟨fun x hx => by have := hr x hx; omega, fun p hp' => (hp p hp').2, fun p hp' x hx => ?_⟩
    exact fold_few x 128 p (2 ^ 4) (hr x hx).1 (hr x hx).2 (by decide) (hpow p 4 (hp p hp').1) (by decide)
  · have hr := hr 2048 h (by decide)
    refine ⟨fun x hx => by have := hr x hx; omega, fun p hp' => (hp p hp').2, fun p hp' x hx => ?_⟩
    exact fold_few x 2048 p (2 ^ 4) (hr x hx).1 (hr x hx).2 (by decide) (hpow p 4 (hp p hp').1) (by decide)
  · have hr := hr 32768 h (by decide)
    refine ⟨fun x hx => by have := hr x hx; omega, fun p hp' => (hp p hp').2, fun p hp' x hx => ?_⟩
    exact fold_few x 32768 p (2 ^ 8) (hr x hx).1 (hr x hx).2 (by decide) (hpow p 8 (hp p hp').1) (by decide)
  · have hr := hr 524288 h (by decide)
    refine ⟨fun x hx => by have := hr x hx; omega, fun p hp' => (hp p hp').2, fun p hp' x hx => ?_⟩
    exact fold_few x 524288 p (2 ^ 12) (hr x hx).1 (hr x hx).2 (by decide) (hpow p 12 (hp p hp').1) (by decide)
theorem own_ty {w : World} {B T sz n : Nat} {v : Value} {xs : List Value} (h : w.ownsRow B T sz v n xs) : OfTy w v.ownBlock.toList [T] := by
  intro i hi
  rcases h.2 with ⟨rfl, _⟩ | ⟨g, cap, cur, rfl, _, hg, _⟩
  · simp [Value.ownBlock] at hi
  · simp only [Value.ownBlock, Option.toList_some, List.mem_singleton] at hi
    subst hi
    exact ⟨_, _, _, hg, by simp⟩
theorem I32At.kpT {g : Nat} {xs : List Int} {w w' : World} {L Ts : List Nat} (h : I32At g xs w) (k : Kp L w w') (hT : OfTy w L Ts) (hd : 21 ∉ Ts) : I32At g xs w' := by
  obtain ⟨sc, hG, hx⟩ := h
  exact ⟨sc, k.at hG (hT.not hG hd), hx⟩
theorem GSub.kpT {s : PSub} {g P : Nat} {w w' : World} {L Ts : List Nat} (h : GSub s g P w) (k : Kp L w w') (hT : OfTy w L Ts) (hd : 21 ∉ Ts ∧ 3 ∉ Ts) : GSub s g P w' := ⟨h.smp.kpT k hT hd.1, h.pars.kpT k hT hd.2⟩
theorem SubsAt.kpT {Y : Nat} {ss : List PSub} {w w' : World} {L Ts : List Nat} (h : SubsAt Y ss w) (k : Kp L w w') (hT : OfTy w L Ts) (hd : 52 ∉ Ts ∧ 21 ∉ Ts ∧ 3 ∉ Ts) : SubsAt Y ss w' := by
  obtain ⟨sc, h1, h2⟩ := h
  refine ⟨sc, k.at h1 (hT.not h1 hd.1), fun c s hc => ?_⟩
  obtain ⟨g, cap, P, pcap, h3, h4, h5⟩ := h2 c s hc
  exact ⟨g, cap, P, pcap, h3, h4.kpT k hT hd.2, h5⟩

/-- A row grown by a push of what lies in a new block. -/
theorem pushKp {wr w3 : World} {B T sz n : Nat} {v : Value} {O : Obj} {cells : List Value} (hown : wr.ownsRow B T sz v n cells) (hgrow : (wr.alloc O).grownBy w3 v.ownBlock) :
    Kp v.ownBlock.toList wr w3 ∧ OfTy wr v.ownBlock.toList [T] ∧ ∀ i ∈ v.ownBlock.toList, B ≤ i := by
  obtain ⟨k1, _, hb⟩ := growKp (hown.alloc O) hgrow
  exact ⟨((Kp.alloc [] wr O).mono (by simp)).trans k1, own_ty hown, hb⟩

/-- The encoder's channels of a frame, under way. -/
def SubsOwn (B : Nat) (ss : List PSub) (v : Value) (w : World) : Prop :=
  ∃ cells, w.ownsRow B 52 9 v ss.length cells ∧ ∀ (c : Nat) (s : PSub), ss[c]? = some s → ∃ g cap P pcap, s.smp.length ≤ cap ∧ GSub s g P w ∧ ∀ (j : Nat) v, (s.ic g cap P pcap)[j]? = some v → cells[c * 9 + j]? = some v
theorem SubsOwn.at {B : Nat} {ss : List PSub} {v : Value} {w : World} (h : SubsOwn B ss v w) (hl : 0 < ss.length) : ∃ Y cap, v = .slice (some ⟨Y, 0, none⟩) ss.length cap ∧ SubsAt Y ss w := by
  obtain ⟨cells, hown, hc⟩ := h
  obtain ⟨Y, cap, rfl, _, _⟩ := hown.form hl
  obtain ⟨_, cur, hg, hx⟩ := ownsRow_at hown
  refine ⟨Y, cap, rfl, cur, hg, fun c s hs => ?_⟩
  obtain ⟨g, cap, P, pcap, h1, h2, h3⟩ := hc c s hs
  exact ⟨g, cap, P, pcap, h1, h2, fun j v hj => hx _ _ (h3 j v hj)⟩
theorem SubsOwn.nil (B : Nat) (w : World) : SubsOwn B [] (.slice none 0 0) w := ⟨[], World.ownsRow_nil _ _ _ _, fun c s h => by simp at h⟩
theorem SubsOwn.kpT {B : Nat} {ss : List PSub} {v : Value} {w w' : World} {L Ts : List Nat} (h : SubsOwn B ss v w) (k : Kp L w w') (hT : OfTy w L Ts) (hd : 52 ∉ Ts ∧ 21 ∉ Ts ∧ 3 ∉ Ts) : SubsOwn B ss v w' := by
  obtain ⟨cells, hown, hc⟩ := h
  refine ⟨cells, ownsRow_kpT hown k hT hd.1, fun c s hs => ?_⟩
  obtain ⟨g, cap, P, pcap, h3, h4, h5⟩ := hc c s hs
  exact ⟨g, cap, P, pcap, h3, h4.kpT k hT hd.2, h5⟩

theorem snoc_get {α : Type} (l : List α) (x : α) (k : Nat) (y : α) (h : (l ++ [x])[k]? = some y) : l[k]? = some y ∨ (k = l.length ∧ y = x) := by
  rcases Nat.lt_or_ge k l.length with hl | hl
  · rw [List.getElem?_append_left hl] at h
    exact .inl h
  · rw [List.getElem?_append_right hl] at h
    right
    rcases Nat.eq_zero_or_pos (k - l.length) with h0 | h0
    · rw [h0] at h
      simp at h
      exact ⟨by omega, h.symm⟩
    · rw [List.getElem?_eq_none (by simp; omega)] at h
      cases h

theorem SubsOwn.push {B : Nat} {ss : List PSub} {v v' : Value} {g gcap P pcap : Nat} {wr w3 : World} {O : Obj} {cells : List Value} {s : PSub} (hown : wr.ownsRow B 52 9 v ss.length cells)
    (hcl : ∀ (c : Nat) (s : PSub), ss[c]? = some s → ∃ g cap P pcap, s.smp.length ≤ cap ∧ GSub s g P wr ∧ ∀ (j : Nat) v, (s.ic g cap P pcap)[j]? = some v → cells[c * 9 + j]? = some v)
    (hle : s.smp.length ≤ gcap) (hgs : GSub s g P wr) (hgrow : (wr.alloc O).grownBy w3 v.ownBlock) (hown3 : w3.ownsRow B 52 9 v' (ss.length + 1) (cells ++ s.ic g gcap P pcap)) :
    SubsOwn B (ss ++ [s]) v' w3 ∧ Kp v.ownBlock.toList wr w3 ∧ OfTy wr v.ownBlock.toList [52] ∧ ∀ i ∈ v.ownBlock.toList, B ≤ i := by
  obtain ⟨k2, ty, hb⟩ := pushKp hown hgrow
  refine ⟨⟨_, by rw [List.length_append]; exact hown3, fun c s' hs' => ?_⟩, k2, ty, hb⟩
  have hl := hown.1
  rcases snoc_get _ _ _ _ hs' with h | ⟨rfl, rfl⟩
  · obtain ⟨g', cap', P', pcap', h1, h2, h3⟩ := hcl c s' h
    refine ⟨g', cap', P', pcap', h1, h2.kpT k2 ty (by decide), fun j u hj => ?_⟩
    have := h3 j u hj
    rw [List.getElem?_append_left (List.getElem?_eq_some_iff.1 this).1]
    exact this
  · refine ⟨g, gcap, P, pcap, hle, hgs.kpT k2 ty (by decide), fun j u hj => ?_⟩
    rw [List.getElem?_append_right (by omega), hl, Nat.add_sub_cancel_left]
    exact hj

/-- The encoder's frames, under way. -/
def FramesOwn (B : Nat) (fs : List PFrame) (v : Value) (w : World) : Prop :=
  ∃ g cap cells, v = .slice (some ⟨g, 0, none⟩) fs.length cap ∧ w.ownsRow B 46 7 v fs.length cells ∧ ∀ (k : Nat) (f : PFrame), fs[k]? = some f → ∃ Y ycap, SubsAt Y f.subs w ∧ ∀ (j : Nat) v, (f.ic Y ycap)[j]? = some v → cells[k * 7 + j]? = some v
theorem FramesOwn.at {B : Nat} {fs : List PFrame} {v : Value} {w : World} (h : FramesOwn B fs v w) : ∃ F cap, v = .slice (some ⟨F, 0, none⟩) fs.length cap ∧ FramesAt F fs w := by
  obtain ⟨g, cap, cells, rfl, hown, hc⟩ := h
  obtain ⟨_, cur, hg, hx⟩ := ownsRow_at hown
  refine ⟨g, cap, rfl, cur, hg, fun c s hs => ?_⟩
  obtain ⟨Y, ycap, h1, h2⟩ := hc c s hs
  exact ⟨Y, ycap, h1, fun j v hj => hx _ _ (h2 j v hj)⟩
theorem FramesOwn.kpT {B : Nat} {fs : List PFrame} {v : Value} {w w' : World} {L Ts : List Nat} (h : FramesOwn B fs v w) (k : Kp L w w') (hT : OfTy w L Ts) (hd : 46 ∉ Ts ∧ 52 ∉ Ts ∧ 21 ∉ Ts ∧ 3 ∉ Ts) : FramesOwn B fs v w' := by
  obtain ⟨g, cap, cells, rfl, hown, hc⟩ := h
  refine ⟨g, cap, cells, rfl, ownsRow_kpT hown k hT hd.1, fun c s hs => ?_⟩
  obtain ⟨Y, ycap, h3, h4⟩ := hc c s hs
  exact ⟨Y, ycap, h3.kpT k hT hd.2, h4⟩
theorem FramesOwn.push {B : Nat} {fs : List PFrame} {g cap g5 cap5 Y ycap : Nat} {wr w3 : World} {O : Obj} {cells : List Value} {f : PFrame} (hown : wr.ownsRow B 46 7 (.slice (some ⟨g, 0, none⟩) fs.length cap) fs.length cells)
    (hcl : ∀ (k : Nat) (f : PFrame), fs[k]? = some f → ∃ Y ycap, SubsAt Y f.subs wr ∧ ∀ (j : Nat) v, (f.ic Y ycap)[j]? = some v → cells[k * 7 + j]? = some v)
    (hs : SubsAt Y f.subs wr) (hgrow : (wr.alloc O).grownBy w3 (Value.slice (some ⟨g, 0, none⟩) fs.length cap).ownBlock) (hown3 : w3.ownsRow B 46 7 (.slice (some ⟨g5, 0, none⟩) (fs.length + 1) cap5) (fs.length + 1) (cells ++ f.ic Y ycap)) :
    FramesOwn B (fs ++ [f]) (.slice (some ⟨g5, 0, none⟩) (fs.length + 1) cap5) w3 ∧ Kp [g] wr w3 ∧ OfTy wr [g] [46] ∧ B ≤ g := by
  obtain ⟨k2, ty, hb⟩ := pushKp hown hgrow
  have hb := hb g (by simp [Value.ownBlock])
  have k2 : Kp [g] wr w3 := k2.mono (by intro j _ hj; simpa [Value.ownBlock] using hj)
  have ty : OfTy wr [g] [46] := fun i hi => ty i (by simpa [Value.ownBlock] using hi)
  refine ⟨⟨g5, cap5, _, by rw [List.length_append]; rfl, by rw [List.length_append]; exact hown3, fun c s' hs' => ?_⟩, k2, ty, hb⟩
  have hl := hown.1
  rcases snoc_get _ _ _ _ hs' with h | ⟨rfl, rfl⟩
  · obtain ⟨Y', ycap', h1, h2⟩ := hcl c s' h
    refine ⟨Y', ycap', h1.kpT k2 ty (by decide), fun j u hj => ?_⟩
    have := h2 j u hj
    rw [List.getElem?_append_left (List.getElem?_eq_some_iff.1 this).1]
    exact this
  · refine ⟨Y, ycap, hs.kpT k2 ty (by decide), fun j u hj => ?_⟩
    rw [List.getElem?_append_right (by omega), hl, Nat.add_sub_cancel_left]
    exact hj
/-- Flags with their assignment turned. -/
theorem bits_or_u32_n (a b : Nat) (ha : a < 4294967296) (hb : b < 4294967296) :
    bits .or .u32 (a : Int) (b : Int) = ((a ||| b : Nat) : Int) := by
  have hx : a ||| b < 2 ^ 32 := Nat.or_lt_two_pow (by omega) (by omega)
  have h1 : (BitVec.ofInt 32 (a : Int)).toNat = a := by
    rw [BitVec.ofInt_natCast, BitVec.toNat_ofNat]; exact Nat.mod_eq_of_lt (by omega)
  have h2 : (BitVec.ofInt 32 (b : Int)).toNat = b := by
    rw [BitVec.ofInt_natCast, BitVec.toNat_ofNat]; exact Nat.mod_eq_of_lt (by omega)
  show IntKind.u32.wrap ((BitVec.ofInt 32 (a : Int) ||| BitVec.ofInt 32 (b : Int)).toNat : Int) = _
  rw [BitVec.toNat_or, h1, h2, IntKind.wrap_u32]
  omega
theorem bits_and_u32_n (a b : Nat) (ha : a < 4294967296) (hb : b < 4294967296) :
    bits .and .u32 (a : Int) (b : Int) = ((a &&& b : Nat) : Int) := by
  have hx : a &&& b < 2 ^ 32 := Nat.and_lt_two_pow _ (by omega)
  have h1 : (BitVec.ofInt 32 (a : Int)).toNat = a := by
    rw [BitVec.ofInt_natCast, BitVec.toNat_ofNat]; exact Nat.mod_eq_of_lt (by omega)
  have h2 : (BitVec.ofInt 32 (b : Int)).toNat = b := by
    rw [BitVec.ofInt_natCast, BitVec.toNat_ofNat]; exact Nat.mod_eq_of_lt (by omega)
  show IntKind.u32.wrap ((BitVec.ofInt 32 (a : Int) &&& BitVec.ofInt 32 (b : Int)).toNat : Int) = _
  rw [BitVec.toNat_and, h1, h2, IntKind.wrap_u32]
  omega
theorem bits_tail (F m : Nat) (hF : F < 4294967296) (hm : m < 67108864) : bits .or .u32 ((m : Int) * 64 % 4294967296) (bits .and .u32 (F : Int) 63) = ((m * 64 + F % 64 : Nat) : Int) := by
  have e1 : bits .and .u32 (F : Int) 63 = ((F % 64 : Nat) : Int) := by
    have h := bits_and_u32_n F 63 hF (by decide)
    have h2 : F &&& 63 = F % 64 := Nat.and_two_pow_sub_one_eq_mod F 6
    rw [h2] at h
    exact h
  have e2 : (m : Int) * 64 % 4294967296 = ((m * 64 : Nat) : Int) := by omega
  rw [e1, e2, bits_or_u32_n _ _ (by omega) (by omega)]
  congr 1
  have := Nat.shiftLeft_add_eq_or_of_lt (i := 6) (b := F % 64) (by omega) m
  rw [Nat.shiftLeft_eq] at this
  exact this.symm

theorem Tryz.info46 : (Tryz.prog.info? 46).map (fun i => (i.zero, i.size, i.bytes)) = some (some (.agg #[.bool false, .int .i64 0, .int .i64 0, .int .i64 0, .int .i64 0, .int .u64 0, .slice none 0 0]), 7, 72) := by kernel_rfl
theorem Tryz.info52 : (Tryz.prog.info? 52).map (fun i => (i.zero, i.size, i.bytes)) = some (some (.agg #[.int .i64 0, .int .i64 0, .int .i64 0, .slice none 0 0, .slice none 0 0, .int .i64 0, .int .i64 0, .int .i64 0, .slice none 0 0]), 9, 120) := by kernel_rfl

def i32V (l : List Int) : List Value := l.map (Value.int .i32)
theorem i32V_length (l : List Int) : (i32V l).length = l.length := by simp [i32V]
theorem i32V_snoc (l : List Int) (x : Int) : i32V (l ++ [x]) = i32V l ++ [.int .i32 x] := by simp [i32V]
theorem own_i32 {w : World} {B g n cap : Nat} {xs : List Int} (h : w.ownsRow B 21 1 (.slice (some ⟨g, 0, none⟩) n cap) n (i32V xs)) : I32At g xs w := by
  obtain ⟨_, cur, hg, hx⟩ := ownsRow_at h
  exact ⟨cur, hg, fun j x hj => hx j _ (by simp [i32V, hj])⟩

/-- Between the pushes of one channel of givenOf. -/
structure SH (wi : World) (cs : Array Value) (w : World) : Prop where
  par : w.heap[wi.heap.size]? = some (.cells #[.int .i64 4] 3 (0, 0))
  sub : w.heap[wi.heap.size + 1]? = some (.cells cs 52 (0, 0))
  kp : Kp [] wi w
theorem SH.set {wi w : World} {cs : Array Value} (h : SH wi cs w) (i : Nat) (v : Value) : SH wi (cs.setIfInBounds i v) (w.setCell ⟨wi.heap.size + 1, i, none⟩ v) ∧ Kp [wi.heap.size + 1] w (w.setCell ⟨wi.heap.size + 1, i, none⟩ v) := by
  have ks : Kp [wi.heap.size + 1] w (w.setCell ⟨wi.heap.size + 1, i, none⟩ v) := Kp.setCell _ _ _ (by simp)
  exact ⟨⟨ks.at h.par (by simp), heap_set h.sub, h.kp.new ks (by simp)⟩, ks⟩
/-- A number pushed into a field. -/
theorem SH.push {wi wr w1 : World} {O : Obj} {cs : Array Value} {v v' : Value} {T B n i : Nat} {xs ys : List Value} (h : SH wi cs wr) (hown : wr.ownsRow B T 1 v n xs) (hB : wi.heap.size + 1 < B) (hg : (wr.alloc O).grownBy w1 v.ownBlock) (hown1 : w1.ownsRow B T 1 v' (n + 1) ys) (hT : T ≠ 52) :
    SH wi (cs.setIfInBounds i v') (w1.setCell ⟨wi.heap.size + 1, i, none⟩ v') ∧ (w1.setCell ⟨wi.heap.size + 1, i, none⟩ v').ownsRow B T 1 v' (n + 1) ys ∧ Kp ((wi.heap.size + 1) :: v.ownBlock.toList) wr (w1.setCell ⟨wi.heap.size + 1, i, none⟩ v') ∧ OfTy wr ((wi.heap.size + 1) :: v.ownBlock.toList) [52, T] ∧ w1.heap[wi.heap.size + 1]? = some (.cells cs 52 (0, 0)) := by
  obtain ⟨k2, ty, hb⟩ := pushKp hown hg
  have hs : wi.heap.size ∉ v.ownBlock.toList := fun hm => by have := hb _ hm; omega
  have hs1 : wi.heap.size + 1 ∉ v.ownBlock.toList := fun hm => by have := hb _ hm; omega
  have g1 := k2.at h.sub hs1
  have ks : Kp [wi.heap.size + 1] w1 (w1.setCell ⟨wi.heap.size + 1, i, none⟩ v') := Kp.setCell _ _ _ (by simp)
  refine ⟨⟨?_, ?_, ?_⟩, ?_, ?_, ?_, g1⟩
  · exact ks.at (k2.at h.par hs) (by simp)
  · exact heap_set g1
  · exact (h.kp.new k2 (fun j hj => by have := hb j hj; omega)).new ks (by simp)
  · exact ownsRow_kp hown1 ks (own_not hown1 g1 hT)
  · exact (k2.mono (fun j _ hj => List.mem_cons_of_mem _ hj)).trans (ks.mono (fun j _ hj => by simp at hj; simp [hj]))
  · intro j hj
    rcases List.mem_cons.1 hj with e | e
    · subst e
      exact ⟨_, _, _, h.sub, by simp⟩
    · obtain ⟨c, T', fz, h1, h2⟩ := ty j e
      exact ⟨c, T', fz, h1, by simp at h2; simp [h2]⟩

/-- What is known of a channel that givenOf makes. -/
structure SGood (n : Nat) (s : PSub) : Prop where
  ok : s.Ok
  len : s.smp.length = n
  pars : 1 ≤ s.pars.length ∧ s.pars.length ≤ 4 ∧ ∀ p ∈ s.pars, p ≤ 14
/-- A channel that is done. -/
def SubDone (n : Nat) (wi w : World) : Prop :=
  ∃ s g gcap P pcap, SGood n s ∧ s.smp.length ≤ gcap ∧ w.heap[wi.heap.size + 1]? = some (.cells (s.ic g gcap P pcap).toArray 52 (0, 0)) ∧ GSub s g P w ∧ Kp [] wi w

/-- Samples within their bounds. -/
structure XsOk (n bits : Nat) (xs : List Int) : Prop where
  len : xs.length = n
  some : 1 ≤ n
  few : n ≤ 256
  bps : BpsOk bits
  top : ∀ x ∈ xs, -(2 ^ (bits - 1) : Int) ≤ x ∧ x < 2 ^ (bits - 1)
theorem XsOk.mid {n bits : Nat} {xs : List Int} (h : XsOk n bits xs) : ∀ x ∈ xs, -8388608 ≤ x ∧ x < 8388608 := fun x hx => by
  have h1 := h.top x hx
  have h2 := h.bps
  have hbb : bits = 8 ∨ bits = 12 ∨ bits = 16 ∨ bits = 20 ∨ bits = 24 := by unfold BpsOk at h2; omega
  rcases hbb with rfl | rfl | rfl | rfl | rfl <;> omega
theorem XsOk.plain {n bits kd : Nat} {xs : List Int} (h : XsOk n bits xs) (hk : kd ≤ 1) (hs : kd = 0 → ∀ j, j < xs.length → xs.getD j 0 = xs.getD 0 0) : SGood n ⟨kd, 0, 0, [4], xs⟩ := by
  have hl := h.len
  have h1 := h.some
  have h2 := h.few
  refine ⟨⟨by simp only; omega, by simp only; omega, by simp only; omega, fun x hx => ?_, by simp only; omega, fun e => hs e, fun e => absurd e (by simp only; omega), fun e => absurd e (by simp only; omega), fun e => absurd e (by simp only; omega)⟩, h.len, by simp⟩
  have := h.mid x hx
  omega
theorem XsOk.poly {n bits ord p : Nat} {xs : List Int} {ps : List Nat} (h : XsOk n bits xs) (hb : bits ≤ 22) (ho : ord ≤ 4) (hn : ord < n) (hp : p ≤ 2) (hd : p = 0 ∨ (n % 2 ^ p = 0 ∧ ord < n / 2 ^ p)) (hl : ps.length = 2 ^ p) (hps : ∀ q ∈ ps, loOf bits ≤ q ∧ q ≤ 14) : SGood n ⟨2, ord, p, ps, xs⟩ := by
  have hxl := h.len
  have h1 := h.some
  have h2 := h.few
  have hpp : p = 0 ∨ p = 1 ∨ p = 2 := by omega
  refine ⟨⟨by simp only; omega, by simp only; omega, by simp only; omega, fun x hx => ?_, ho, fun e => absurd e (by simp), fun _ => by simp only; omega, fun _ => ?_, fun _ => rests_ok ord xs bits ps h.bps hb h.top ho hps⟩, h.len, ?_⟩
  · have := h.mid x hx
    omega
  · refine ⟨hp, hl, ?_, ?_⟩
    · simp only [PSub.n, hxl]
      rcases hd with rfl | ⟨hd, _⟩
      · simp
      · exact Nat.div_mul_cancel (Nat.dvd_of_mod_eq_zero hd)
    · simp only [PSub.n, hxl]
      rcases hd with rfl | ⟨_, hd⟩
      · simp; omega
      · omega
  · simp only [hl]
    refine ⟨?_, ?_, fun q hq => (hps q hq).2⟩
    · rcases hpp with rfl | rfl | rfl <;> decide
    · rcases hpp with rfl | rfl | rfl <;> decide

def KindAt (A : Option Addr) (n : Nat) (w : World) : Prop := 0 < n → ∃ b o, A = some ⟨b, o, none⟩ ∧ ∀ j, j < n → ∃ x : Nat, x < 65536 ∧ w.cell? ⟨b, o + j, none⟩ = some (.int .u16 x)
theorem KindAt.kp {A : Option Addr} {n : Nat} {w w' : World} (h : KindAt A n w) (k : Kp [] w w') : KindAt A n w' := fun hn => by
  obtain ⟨b, o, e, hc⟩ := h hn
  refine ⟨b, o, e, fun j hj => ?_⟩
  obtain ⟨x, hx, hcx⟩ := hc j hj
  refine ⟨x, hx, ?_⟩
  have hl := World.block_lt_of_cell? _ _ hcx
  rw [World.cell?_of_block (k.block _ hl (by simp)), hcx]

/-- What is known of a frame that givenOf makes. -/
structure FGood (r : RawP) (f : PFrame) : Prop where
  ok : f.Ok
  va : f.varies = r.va
  bits : f.bits = r.bits
  nch : f.subs.length = r.assign + 1
  pars : ∀ s ∈ f.subs, 1 ≤ s.pars.length ∧ s.pars.length ≤ 4 ∧ ∀ p ∈ s.pars, p ≤ 14
theorem FGood.make {r : RawP} {n : Nat} {ss : List PSub} (hr : r.Ok) (h1 : 1 ≤ n) (h2 : n ≤ 256) (hl : ss.length = r.assign + 1) (hs : ∀ s ∈ ss, SGood n s) : FGood r ⟨r.va, n, r.rate, r.assign, r.bits, ss⟩ := by
  have ha := hr.assign
  exact ⟨⟨by simp only; omega, by simp only; omega, by simp only; omega, h1, h2, fun s h => (hs s h).len, hr.rate, hr.bits, fun s h => (hs s h).ok⟩, rfl, rfl, hl, fun s h => (hs s h).pars⟩

/-- What givenOf comes to. -/
def Given (w : World) (e : Ending) (w' : World) : Prop :=
  ∃ (i : PInfo) (va : Bool) (fs : List PFrame) (G gcap : Nat), i.Ok ∧ FsOk i va fs ∧ e = .returned (.tuple #[i.v, .slice (some ⟨G, 0, none⟩) fs.length gcap]) ∧ FramesAt G fs w' ∧ Kp [] w w'
theorem FGood.all {r : RawP} {fs : List PFrame} {smp : Nat} (hr : r.Ok) (h3 : fs.length ≤ 3) (h : ∀ f ∈ fs, FGood r f) (hs : smp < 4294967296) : PInfo.Ok ⟨r.rate, r.assign + 1, r.bits, smp⟩ ∧ FsOk ⟨r.rate, r.assign + 1, r.bits, smp⟩ r.va fs := by
  have h1 := hr.rate
  have h2 := hr.bits
  have h4 := hr.assign
  unfold RateOk at h1
  unfold BpsOk at h2
  exact ⟨⟨by simp only; omega, by simp only; omega, by simp only; omega, by simp only; omega, by simp only; omega, hs⟩, ⟨h3, fun f hf => (h f hf).ok, fun f hf => (h f hf).va, fun f hf => (h f hf).bits, fun f hf => (h f hf).nch, fun f hf => (h f hf).pars⟩⟩
end Go.Proofs.YtemcpcgcnjahjaaGreatDoor
