/-
  Rows that a call owns, and what is kept while they grow.
-/
import Derived.Test.YtemcpcgcnjahjaaGreatDoorData
namespace Go.Proofs.YtemcpcgcnjahjaaGreatDoor
open Go.RowKit

theorem growKp {wA w1 : World} {v : Value} {B T sz n : Nat} {xs : List Value} (hown : wA.ownsRow B T sz v n xs) (hg : wA.grownBy w1 v.ownBlock) :
    Kp v.ownBlock.toList wA w1 ∧ OfTy wA v.ownBlock.toList [T] ∧ ∀ i ∈ v.ownBlock.toList, B ≤ i := by
  refine ⟨Kp.grown hg (by intro k hk; simp [hk]), ?_, ?_⟩
  · intro i hi
    rcases hown.2 with ⟨rfl, _⟩ | ⟨g, cap, cur, rfl, hb, hgg, _⟩
    · simp [Value.ownBlock] at hi
    · simp only [Value.ownBlock, Option.toList_some, List.mem_singleton] at hi
      subst hi
      exact ⟨_, _, _, hgg, by simp⟩
  · intro i hi
    rcases hown.2 with ⟨rfl, _⟩ | ⟨g, cap, cur, rfl, hb, hgg, _⟩
    · simp [Value.ownBlock] at hi
    · simp only [Value.ownBlock, Option.toList_some, List.mem_singleton] at hi
      subst hi
      exact hb

theorem IntAt.kpT {g : Nat} {xs : List Int} {w w' : World} {L Ts : List Nat} (h : IntAt g xs w) (k : Kp L w w') (hT : OfTy w L Ts) (hd : 3 ∉ Ts) : IntAt g xs w' := by
  obtain ⟨sc, hG, hx⟩ := h
  exact ⟨sc, k.at hG (hT.not hG hd), hx⟩
theorem RowAt.kpT {a : Nat} {ss : List PSub} {w w' : World} {L Ts : List Nat} (h : RowAt a ss w) (k : Kp L w w') (hT : OfTy w L Ts) (hd : 87 ∉ Ts ∧ 3 ∉ Ts) : RowAt a ss w' := by
  obtain ⟨sc, h1, h2⟩ := h
  refine ⟨sc, k.at h1 (hT.not h1 hd.1), fun c s hc => ?_⟩
  obtain ⟨P, pcap, g, cap, h3, h4, h5, h6⟩ := h2 c s hc
  exact ⟨P, pcap, g, cap, h3, h4.kpT k hT hd.2, h5.kpT k hT hd.2, h6⟩
theorem ownsRow_kpT {w w' : World} {B : Nat} {e : TypeId} {sz : Nat} {v : Value} {n : Nat} {xs : List Value} {L Ts : List Nat} (h : w.ownsRow B e sz v n xs) (k : Kp L w w') (hT : OfTy w L Ts) (hd : e ∉ Ts) : w'.ownsRow B e sz v n xs := by
  refine ownsRow_kp h k fun g hg hm => ?_
  rcases h.2 with ⟨rfl, _⟩ | ⟨g', cap, cur, rfl, hb, hg', _⟩
  · simp [Value.ownBlock] at hg
  · simp only [Value.ownBlock, Option.some.injEq] at hg
    subst hg
    exact hT.not hg' hd hm
theorem OfTy.nil (w : World) (Ts : List Nat) : OfTy w [] Ts := fun k hk => by simp at hk

/-- A row that is owned, as a block. -/
theorem ownsRow_at {w : World} {B e sz g n cap : Nat} {xs : List Value} (h : w.ownsRow B e sz (.slice (some ⟨g, 0, none⟩) n cap) n xs) : n ≤ cap ∧ ∃ cur : Array Value, w.heap[g]? = some (.cells cur e (0, 0)) ∧ ∀ (j : Nat) v, xs[j]? = some v → cur[j]? = some v := by
  rcases h.2 with ⟨h', _⟩ | ⟨g', cap', cur, h', _, hg, hn, _, _, htk⟩
  · cases h'
  · cases h'
    refine ⟨hn, cur, hg, fun j v hx => ?_⟩
    rw [← htk, List.getElem?_take] at hx
    split at hx
    · simpa using hx
    · cases hx

/-! ### The rows of the reference's data -/

def HeadsOwn (B : Nat) (fs : List PFrame) (k : Nat) (v : Value) (w : World) : Prop :=
  ∃ g cap, v = .slice (some ⟨g, 0, none⟩) k cap ∧ w.ownsRow B 43 6 v k ((fs.take k).flatMap headCells)

theorem flat_get {α : Type} (l : List α) (g : α → List Value) (n : Nat) (hn : ∀ x ∈ l, (g x).length = n) (k : Nat) (x : α) (hk : l[k]? = some x) (j : Nat) (v : Value) (hj : (g x)[j]? = some v) : (l.flatMap g)[k * n + j]? = some v := by
  induction l generalizing k with
  | nil => simp at hk
  | cons y l ih =>
    rw [List.flatMap_cons]
    have hy := hn y (List.mem_cons_self ..)
    have hjn : j < (g x).length := (List.getElem?_eq_some_iff.1 hj).1
    cases k with
    | zero =>
      rw [List.getElem?_cons_zero] at hk
      cases hk
      rw [Nat.zero_mul, Nat.zero_add, List.getElem?_append_left hjn]
      exact hj
    | succ k =>
      rw [List.getElem?_cons_succ] at hk
      have h1 := ih (fun z hz => hn z (List.mem_cons_of_mem _ hz)) k hk
      rw [List.getElem?_append_right (by rw [hy, Nat.add_mul]; omega), hy, ← h1]
      congr 1
      rw [Nat.add_mul]; omega

theorem flat_len {α : Type} (l : List α) (g : α → List Value) (n : Nat) (hn : ∀ x ∈ l, (g x).length = n) : (l.flatMap g).length = l.length * n := by
  induction l with
  | nil => simp
  | cons y l ih =>
    rw [List.flatMap_cons, List.length_append, hn y (List.mem_cons_self ..), ih fun z hz => hn z (List.mem_cons_of_mem _ hz), List.length_cons, Nat.add_mul]
    omega

theorem HeadsOwn.at {B : Nat} {fs : List PFrame} {v : Value} {w : World} (h : HeadsOwn B fs fs.length v w) : ∃ b cap, v = .slice (some ⟨b, 0, none⟩) fs.length cap ∧ HeadsAt b fs w := by
  obtain ⟨g, cap, rfl, hown⟩ := h
  obtain ⟨_, cur, hg, hx⟩ := ownsRow_at hown
  refine ⟨g, cap, rfl, cur, hg, fun k f hk j v hj => hx _ _ ?_⟩
  rw [List.take_length]
  exact flat_get fs headCells 6 (fun _ _ => rfl) k f hk j v hj

def RowOwn (B : Nat) (ss : List PSub) (c : Nat) (v : Value) (w : World) : Prop :=
  ∃ g cap cells, v = .slice (some ⟨g, 0, none⟩) c cap ∧ w.ownsRow B 87 5 v c cells ∧ ∀ (d : Nat) (s : PSub), d < c → ss[d]? = some s → ∃ P pcap g cap, s.smp.length ≤ cap ∧ IntAt g s.smp w ∧ IntAt P (s.pars.map Int.ofNat) w ∧ ∀ (j : Nat) v, (s.sc P pcap g cap)[j]? = some v → cells[d * 5 + j]? = some v
theorem RowOwn.at {B : Nat} {ss : List PSub} {v : Value} {w : World} (h : RowOwn B ss ss.length v w) : ∃ a cap, v = .slice (some ⟨a, 0, none⟩) ss.length cap ∧ RowAt a ss w := by
  obtain ⟨g, cap, cells, rfl, hown, hc⟩ := h
  obtain ⟨_, cur, hg, hx⟩ := ownsRow_at hown
  refine ⟨g, cap, rfl, cur, hg, fun d s hd => ?_⟩
  obtain ⟨P, pcap, g', cap', h1, h2, h3, h4⟩ := hc d s (List.getElem?_eq_some_iff.1 hd).1 hd
  exact ⟨P, pcap, g', cap', h1, h2, h3, fun j v hj => hx _ _ (h4 j v hj)⟩
theorem RowOwn.kp {B : Nat} {ss : List PSub} {c : Nat} {v : Value} {w w' : World} (h : RowOwn B ss c v w) (k : Kp [] w w') : RowOwn B ss c v w' := by
  obtain ⟨g, cap, cells, rfl, hown, hc⟩ := h
  refine ⟨g, cap, cells, rfl, ownsRow_kp hown k (fun _ _ => by simp), fun d s hd hs => ?_⟩
  obtain ⟨P, pcap, g', cap', h1, h2, h3, h4⟩ := hc d s hd hs
  exact ⟨P, pcap, g', cap', h1, h2.kp k (by simp), h3.kp k (by simp), h4⟩

def AllOwn (B : Nat) (fs : List PFrame) (k : Nat) (v : Value) (w : World) : Prop :=
  ∃ g cap rows, v = .slice (some ⟨g, 0, none⟩) k cap ∧ w.ownsRow B 85 1 v k rows ∧ ∀ (j : Nat) (f : PFrame), j < k → fs[j]? = some f → ∃ a cap, rows[j]? = some (.slice (some ⟨a, 0, none⟩) f.subs.length cap) ∧ RowAt a f.subs w
theorem AllOwn.at {B : Nat} {fs : List PFrame} {v : Value} {w : World} (h : AllOwn B fs fs.length v w) : ∃ a cap, v = .slice (some ⟨a, 0, none⟩) fs.length cap ∧ AllAt a fs w := by
  obtain ⟨g, cap, rows, rfl, hown, hc⟩ := h
  obtain ⟨_, cur, hg, hx⟩ := ownsRow_at hown
  refine ⟨g, cap, rfl, cur, hg, fun d s hd => ?_⟩
  obtain ⟨a, acap, h1, h2⟩ := hc d s (List.getElem?_eq_some_iff.1 hd).1 hd
  exact ⟨a, acap, hx _ _ h1, h2⟩
theorem AllOwn.kpT {B : Nat} {fs : List PFrame} {k : Nat} {v : Value} {w w' : World} {L Ts : List Nat} (h : AllOwn B fs k v w) (hk : Kp L w w') (hT : OfTy w L Ts) (hd : 87 ∉ Ts ∧ 3 ∉ Ts ∧ 85 ∉ Ts) : AllOwn B fs k v w' := by
  obtain ⟨g, cap, rows, rfl, hown, hc⟩ := h
  refine ⟨g, cap, rows, rfl, ownsRow_kpT hown hk hT hd.2.2, fun d s hd' hs => ?_⟩
  obtain ⟨a, acap, h1, h2⟩ := hc d s hd' hs
  exact ⟨a, acap, h1, h2.kpT hk hT ⟨hd.1, hd.2.1⟩⟩
theorem HeadsOwn.kpT {B : Nat} {fs : List PFrame} {k : Nat} {v : Value} {w w' : World} {L Ts : List Nat} (h : HeadsOwn B fs k v w) (hk : Kp L w w') (hT : OfTy w L Ts) (hd : 43 ∉ Ts) : HeadsOwn B fs k v w' := by
  obtain ⟨g, cap, rfl, hown⟩ := h
  exact ⟨g, cap, rfl, ownsRow_kpT hown hk hT hd⟩

theorem FramesAt.getK {F : Nat} {fs : List PFrame} {w : World} (h : FramesAt F fs w) {k : Nat} {f : PFrame} (hk : fs[k]? = some f) :
    ∃ Y ycap, SubsAt Y f.subs w ∧ ∀ w', Kp [] w w' → ∀ (j : Nat) v, (f.ic Y ycap)[j]? = some v → w'.cell? ⟨F, k * 7 + j, none⟩ = some v := by
  obtain ⟨sc, h1, h2⟩ := h
  obtain ⟨Y, ycap, h3, h4⟩ := h2 k f hk
  exact ⟨Y, ycap, h3, fun w' kp j v hj => (Lib.cell_of_heap (kp.at h1 (by simp)) _).trans (h4 j v hj)⟩
theorem SubsAt.getK {Y : Nat} {ss : List PSub} {w : World} (h : SubsAt Y ss w) {c : Nat} {s : PSub} (hc : ss[c]? = some s) :
    ∃ g cap P pcap, s.smp.length ≤ cap ∧ GSub s g P w ∧ ∀ w', Kp [] w w' → ∀ (j : Nat) v, (s.ic g cap P pcap)[j]? = some v → w'.cell? ⟨Y, c * 9 + j, none⟩ = some v := by
  obtain ⟨sc, h1, h2⟩ := h
  obtain ⟨g, cap, P, pcap, h3, h4, h5⟩ := h2 c s hc
  exact ⟨g, cap, P, pcap, h3, h4, fun w' kp j v hj => (Lib.cell_of_heap (kp.at h1 (by simp)) _).trans (h5 j v hj)⟩

theorem RowOwn.push {B : Nat} {ss : List PSub} {c gr capr g5 cap5 P pcap g gcap : Nat} {wr w3 : World} {O : Obj} {cells : List Value} {s : PSub} (hown : wr.ownsRow B 87 5 (.slice (some ⟨gr, 0, none⟩) c capr) c cells)
    (hcl : ∀ (d : Nat) (s : PSub), d < c → ss[d]? = some s → ∃ P pcap g cap, s.smp.length ≤ cap ∧ IntAt g s.smp wr ∧ IntAt P (s.pars.map Int.ofNat) wr ∧ ∀ (j : Nat) v, (s.sc P pcap g cap)[j]? = some v → cells[d * 5 + j]? = some v)
    (hs : ss[c]? = some s) (hle : s.smp.length ≤ gcap) (hg : IntAt g s.smp wr) (hp : IntAt P (s.pars.map Int.ofNat) wr) (hgrow : (wr.alloc O).grownBy w3 (Value.slice (some ⟨gr, 0, none⟩) c capr).ownBlock)
    (hown3 : w3.ownsRow B 87 5 (.slice (some ⟨g5, 0, none⟩) (c + 1) cap5) (c + 1) (cells ++ (s.sc P pcap g gcap).toList)) : RowOwn B ss (c + 1) (.slice (some ⟨g5, 0, none⟩) (c + 1) cap5) w3 ∧ Kp [gr] wr w3 ∧ B ≤ gr := by
  obtain ⟨k1, _, hb⟩ := growKp (hown.alloc O) hgrow
  obtain ⟨_, ty, _⟩ : True ∧ OfTy wr [gr] [87] ∧ True := by
    obtain ⟨_, cur, h, _⟩ := ownsRow_at hown
    exact ⟨trivial, one_ty h, trivial⟩
  have k2 : Kp [gr] wr w3 := ((Kp.alloc [] wr O).mono (by simp)).trans (k1.mono (by intro j _ hj; simpa [Value.ownBlock] using hj))
  refine ⟨⟨g5, cap5, _, rfl, hown3, fun d s' hd hs' => ?_⟩, k2, hb gr (by simp [Value.ownBlock])⟩
  have hcl5 := hown.1
  rcases Nat.lt_or_ge d c with h | h
  · obtain ⟨P', pcap', g', gcap', h1, h2, h3, h4⟩ := hcl d s' h hs'
    refine ⟨P', pcap', g', gcap', h1, h2.kpT k2 ty (by decide), h3.kpT k2 ty (by decide), fun j v hj => ?_⟩
    have := h4 j v hj
    rw [List.getElem?_append_left (List.getElem?_eq_some_iff.1 this).1]
    exact this
  · obtain rfl : d = c := by omega
    rw [hs] at hs'
    cases hs'
    refine ⟨P, pcap, g, gcap, hle, hg.kpT k2 ty (by decide), hp.kpT k2 ty (by decide), fun j v hj => ?_⟩
    rw [List.getElem?_append_right (by omega), hcl5, Nat.add_sub_cancel_left, Array.getElem?_toList]
    exact hj
theorem AllOwn.push {B : Nat} {fs : List PFrame} {k ga capa g5 cap5 a acap : Nat} {wr w3 : World} {O : Obj} {rows : List Value} {f : PFrame} (hown : wr.ownsRow B 85 1 (.slice (some ⟨ga, 0, none⟩) k capa) k rows)
    (hcl : ∀ (j : Nat) (f : PFrame), j < k → fs[j]? = some f → ∃ a cap, rows[j]? = some (.slice (some ⟨a, 0, none⟩) f.subs.length cap) ∧ RowAt a f.subs wr)
    (hf : fs[k]? = some f) (hr : RowAt a f.subs wr) (hgrow : (wr.alloc O).grownBy w3 (Value.slice (some ⟨ga, 0, none⟩) k capa).ownBlock)
    (hown3 : w3.ownsRow B 85 1 (.slice (some ⟨g5, 0, none⟩) (k + 1) cap5) (k + 1) (rows ++ [.slice (some ⟨a, 0, none⟩) f.subs.length acap])) : AllOwn B fs (k + 1) (.slice (some ⟨g5, 0, none⟩) (k + 1) cap5) w3 ∧ Kp [ga] wr w3 ∧ B ≤ ga ∧ OfTy wr [ga] [85] := by
  obtain ⟨k1, _, hb⟩ := growKp (hown.alloc O) hgrow
  have ty : OfTy wr [ga] [85] := by
    obtain ⟨_, cur, h, _⟩ := ownsRow_at hown
    exact one_ty h
  have k2 : Kp [ga] wr w3 := ((Kp.alloc [] wr O).mono (by simp)).trans (k1.mono (by intro j _ hj; simpa [Value.ownBlock] using hj))
  refine ⟨⟨g5, cap5, _, rfl, hown3, fun d f' hd hs' => ?_⟩, k2, hb ga (by simp [Value.ownBlock]), ty⟩
  have hcl5 := hown.1
  rcases Nat.lt_or_ge d k with h | h
  · obtain ⟨a', acap', h1, h2⟩ := hcl d f' h hs'
    refine ⟨a', acap', ?_, h2.kpT k2 ty (by decide)⟩
    rw [List.getElem?_append_left (List.getElem?_eq_some_iff.1 h1).1]
    exact h1
  · obtain rfl : d = k := by omega
    rw [hf] at hs'
    cases hs'
    refine ⟨a, acap, ?_, hr.kpT k2 ty (by decide)⟩
    rw [List.getElem?_append_right (by omega), hcl5, Nat.mul_one, Nat.sub_self]
    rfl

/-- Between the pushes of one channel. -/
structure GH (ws : World) (S : Obj) (cs : Array Value) (w : World) : Prop where
  sub : w.heap[ws.heap.size]? = some S
  giv : w.heap[ws.heap.size + 1]? = some (.cells cs 87 (0, 0))
  kp : Kp [] ws w

/-- A number pushed into a field. -/
theorem GH.push {ws wr w1 : World} {S O : Obj} {cs : Array Value} {v v' : Value} {B n i : Nat} {xs ys : List Value} (h : GH ws S cs wr) (hown : wr.ownsRow B 3 1 v n xs) (hB : ws.heap.size + 1 < B) (hg : (wr.alloc O).grownBy w1 v.ownBlock) (hown1 : w1.ownsRow B 3 1 v' (n + 1) ys) :
    GH ws S (cs.setIfInBounds i v') (w1.setCell ⟨ws.heap.size + 1, i, none⟩ v') ∧ (w1.setCell ⟨ws.heap.size + 1, i, none⟩ v').ownsRow B 3 1 v' (n + 1) ys ∧ Kp ((ws.heap.size + 1) :: v.ownBlock.toList) wr (w1.setCell ⟨ws.heap.size + 1, i, none⟩ v') ∧ w1.heap[ws.heap.size + 1]? = some (.cells cs 87 (0, 0)) := by
  obtain ⟨k1, ty, hb⟩ := growKp (hown.alloc O) hg
  have k2 : Kp v.ownBlock.toList wr w1 := ((Kp.alloc [] wr O).mono (by simp)).trans k1
  have hs : ws.heap.size ∉ v.ownBlock.toList := fun hm => by have := hb _ hm; omega
  have hs1 : ws.heap.size + 1 ∉ v.ownBlock.toList := fun hm => by have := hb _ hm; omega
  have g1 := k2.at h.giv hs1
  have ks : Kp [ws.heap.size + 1] w1 (w1.setCell ⟨ws.heap.size + 1, i, none⟩ v') := Kp.setCell _ _ _ (by simp)
  refine ⟨⟨?_, ?_, ?_⟩, ?_, ?_, g1⟩
  · exact ks.at (k2.at h.sub hs) (by simp)
  · exact heap_set g1
  · exact (h.kp.new k2 (fun j hj => by have := hb j hj; omega)).new ks (by simp)
  · exact ownsRow_kp hown1 ks (own_not hown1 g1 (by decide))
  · exact (k2.mono (fun j _ hj => List.mem_cons_of_mem _ hj)).trans (ks.mono (fun j _ hj => by simp at hj; simp [hj]))
end Go.Proofs.YtemcpcgcnjahjaaGreatDoor
