/-
  A frame, written whole.
-/
import Derived.Test.YtemcpcgcnjahjaaGreatDoorFrame
namespace Go.Proofs.YtemcpcgcnjahjaaGreatDoor
open Go.RowKit

/-- Each of these blocks is of one of these types. -/
def OfTy (w : World) (S : List Nat) (Ts : List Nat) : Prop := ∀ k ∈ S, ∃ (c : Array Value) (T : TypeId) (fz : Nat × Nat), w.heap[k]? = some (.cells c T fz) ∧ T ∈ Ts

theorem OfTy.noData {w : World} {S Ts : List Nat} (h : OfTy w S Ts) (hd : ∀ T ∈ Ts, T ≠ 129 ∧ T ≠ 133 ∧ T ≠ 135 ∧ T ≠ 21 ∧ T ≠ 77 ∧ T ≠ 78 ∧ T ≠ 5) : NoData w S := by
  intro k hk c T fz hc
  obtain ⟨c', T', fz', h1, h2⟩ := h k hk
  rw [h1] at hc
  simp only [Option.some.injEq, Obj.cells.injEq] at hc
  obtain ⟨_, rfl, _⟩ := hc
  exact hd _ h2
theorem OfTy.not {w : World} {S Ts : List Nat} {k : Nat} {c : Array Value} {T : TypeId} {fz : Nat × Nat} (h : OfTy w S Ts) (hk : w.heap[k]? = some (.cells c T fz)) (hT : T ∉ Ts) : k ∉ S := by
  intro hm
  obtain ⟨c', T', fz', h1, h2⟩ := h k hm
  rw [h1] at hk
  simp only [Option.some.injEq, Obj.cells.injEq] at hk
  obtain ⟨_, rfl, _⟩ := hk
  exact hT h2

theorem Q16.ty {B D T b M R rc : Nat} {pre x y : List UInt8} {w : World} (h : Q16 B D T b M R rc pre x y w) : OfTy w [M, R, D, T, b] [201, 100, 243, 245, 56] := by
  obtain ⟨_, ⟨hM, cur, hR, _⟩, hD, hb⟩ := h
  obtain ⟨c, hb⟩ := hb.block
  intro k hk
  simp only [List.mem_cons, List.not_mem_nil, or_false] at hk
  rcases hk with rfl | rfl | rfl | rfl | rfl
  · exact ⟨_, _, _, hM, by simp⟩
  · exact ⟨_, _, _, hR, by simp⟩
  · exact ⟨_, _, _, hD.1, by simp⟩
  · exact ⟨_, _, _, hD.2.1, by simp⟩
  · exact ⟨_, _, _, hb, by simp⟩

theorem bw16_ty {B D T b M R rc W : Nat} {pre : List UInt8} {hpre : pre.length ≤ 17592186044416} {s : List UInt8 × List Bool} {w : World} (h : BW (snk16 B D T b M R rc pre hpre) W s w) : OfTy w (W :: [M, R, D, T, b]) [172, 201, 100, 243, 245, 56] := by
  have hq : Q16 B D T b M R rc pre s.1 s.1 w := h.sink
  intro k hk
  rcases List.mem_cons.1 hk with rfl | hk
  · exact ⟨_, _, _, h.cells, by simp⟩
  · obtain ⟨c, T', fz, h1, h2⟩ := hq.ty k hk
    exact ⟨c, T', fz, h1, List.mem_cons_of_mem _ h2⟩

/-- An encoder as it lies. -/
structure EncAt (E ST IN b d nch : Nat) (x1 x2 x3 num : Int) (w : World) : Prop where
  enc : w.heap[E]? = some (.cells #[.pointer (some ⟨ST, 0, none⟩), .iface 62 (.pointer (some ⟨b, 0, none⟩)), .int .u16 x1, .int .u16 x2, .int .u32 0, .int .u32 0, .iface 105 (.pointer (some ⟨d, 0, none⟩)), .int .u64 x3, .int .u64 num, .bool false] 110 (0, 0))
  str : w.heap[ST]? = some (.cells #[.pointer (some ⟨IN, 0, none⟩), .slice none 0 0, .nilIface] 104 (0, 0))
  inf : ∃ ic : Array Value, w.heap[IN]? = some (.cells ic 122 (0, 0)) ∧ ic[5]? = some (.int .u8 nch)

theorem EncAt.fr {E ST IN b d nch B : Nat} {x1 x2 x3 num : Int} {w w' : World} {S : List Nat} (h : EncAt E ST IN b d nch x1 x2 x3 num w) (k : Fr B S w w') (h1 : E ∉ S) (h2 : ST ∉ S) (h3 : IN ∉ S) : EncAt E ST IN b d nch x1 x2 x3 num w' := by
  obtain ⟨ic, hI, h5⟩ := h.inf
  exact ⟨k.at h.enc h1 (by decide), k.at h.str h2 (by decide), ic, k.at hI h3 (by decide), h5⟩
theorem EncAt.frT {E ST IN b d nch B : Nat} {x1 x2 x3 num : Int} {w w' : World} {S Ts : List Nat} (h : EncAt E ST IN b d nch x1 x2 x3 num w) (k : Fr B S w w') (hT : OfTy w S Ts) (hd : 110 ∉ Ts ∧ 104 ∉ Ts ∧ 122 ∉ Ts) : EncAt E ST IN b d nch x1 x2 x3 num w' := by
  obtain ⟨ic, hI, h5⟩ := h.inf
  exact h.fr k (hT.not h.enc hd.1) (hT.not h.str hd.2.1) (hT.not hI hd.2.2)
theorem FrameAt.frT {f : PFrame} {num : Int} {F Y ycap B : Nat} {w w' : World} {S Ts : List Nat} (h : FrameAt f num F Y ycap w) (k : Fr B S w w') (hT : OfTy w S Ts) (hd : ∀ T ∈ Ts, T ≠ 129 ∧ T ≠ 133 ∧ T ≠ 135 ∧ T ≠ 21 ∧ T ≠ 77 ∧ T ≠ 78 ∧ T ≠ 5) : FrameAt f num F Y ycap w' :=
  h.fr k (hT.noData hd)

/-- What is known of a frame that can be written. -/
structure PFrame.Ok (f : PFrame) : Prop where
  some : 1 ≤ f.subs.length
  few : f.subs.length ≤ 8
  assign : f.assign + 1 = f.subs.length
  size1 : 1 ≤ f.size
  size2 : f.size ≤ 256
  len : ∀ s ∈ f.subs, s.smp.length = f.size
  rate : RateOk f.rate
  bits : BpsOk f.bits
  subs : ∀ s ∈ f.subs, s.Ok

/-- The bits of a frame's channels. -/
def PFrame.body (f : PFrame) : List Bool := f.subs.flatMap fun s => s.bits f.bits
/-- A frame's header with its sum. -/
def PFrame.head (f : PFrame) (num : Nat) : List UInt8 := headB (!f.varies) f.size f.rate f.assign f.bits num ++ [UInt8.ofNat (crc8 (headB (!f.varies) f.size f.rate f.assign f.bits num)).toNat]
/-- A frame ahead of its sum. -/
def PFrame.front (f : PFrame) (num : Nat) : List UInt8 := (wrB (wrB (f.head num, []) f.body) (padB (wrB (f.head num, []) f.body))).1
/-- A frame. -/
def PFrame.bytes (f : PFrame) (num : Nat) : List UInt8 := f.front num ++ [UInt8.ofNat ((crc16 (f.front num)).toNat / 256), UInt8.ofNat ((crc16 (f.front num)).toNat % 256)]

theorem Kp.ofTy {w w' : World} {S L Ts : List Nat} (h : OfTy w S Ts) (k : Kp L w w') (hL : ∀ i ∈ S, i ∉ L) : OfTy w' S Ts := by
  intro i hi
  obtain ⟨c, T, fz, h1, h2⟩ := h i hi
  exact ⟨c, T, fz, k.at h1 (hL i hi), h2⟩

theorem Q16.kpT {B D T b M R rc : Nat} {pre x y : List UInt8} {w w' : World} {L Ts : List Nat} (h : Q16 B D T b M R rc pre x y w) (k : Kp L w w') (hT : OfTy w L Ts) (hd : ∀ t ∈ Ts, t ∉ [201, 100, 243, 245, 56, 5]) : Q16 B D T b M R rc pre x y w' := by
  refine h.kp k fun i hi => ?_
  obtain ⟨c, t, fz, h1, h2⟩ := hT i hi
  have h3 := hd t h2
  refine ⟨fun hm => ?_, noRow_of h1 (fun e => h3 (by simp [e]))⟩
  obtain ⟨c', t', fz', h4, h5⟩ := h.ty i hm
  rw [h1] at h4
  simp only [Option.some.injEq, Obj.cells.injEq] at h4
  obtain ⟨_, rfl, _⟩ := h4
  exact h3 (show t ∈ [201, 100, 243, 245, 56] ++ [5] from List.mem_append_left _ h5)

theorem MultiOf.kpT {B M : Nat} {xs : List Value} {w w' : World} {L Ts : List Nat} (h : MultiOf B M xs w) (k : Kp L w w') (hT : OfTy w L Ts) (hd : 201 ∉ Ts ∧ 100 ∉ Ts) : MultiOf B M xs w' := by
  obtain ⟨v, hM, hown⟩ := h
  refine ⟨v, k.at hM (hT.not hM hd.1), ownsRow_kp hown k fun g hg hm => ?_⟩
  rcases hown.2 with ⟨rfl, _⟩ | ⟨g', cap, cur, rfl, hb, hg', _⟩
  · simp [Value.ownBlock] at hg
  · simp only [Value.ownBlock, Option.some.injEq] at hg
    subst hg
    exact hT.not hg' hd.2 hm

theorem Dig.kpT {d : Nat} {w w' : World} {L Ts : List Nat} (h : ∃ nx, nx < 64 ∧ Dig d nx w) (k : Kp L w w') (hT : OfTy w L Ts) (hd : 170 ∉ Ts) : ∃ nx, nx < 64 ∧ Dig d nx w' := by
  obtain ⟨nx, hnx, cs, hcs, hok⟩ := h
  exact ⟨nx, hnx, cs, k.at hcs (hT.not hcs hd), hok⟩
theorem Dig.frT {d B : Nat} {w w' : World} {L Ts : List Nat} (h : ∃ nx, nx < 64 ∧ Dig d nx w) (k : Fr B L w w') (hT : OfTy w L Ts) (hd : 170 ∉ Ts) : ∃ nx, nx < 64 ∧ Dig d nx w' := by
  obtain ⟨nx, hnx, cs, hcs, hok⟩ := h
  exact ⟨nx, hnx, cs, k.at hcs (hT.not hcs hd) (by decide), hok⟩

/-- The walk of WriteFrame ahead of the header. -/
structure WS (f : PFrame) (fnum : Int) (F Y ycap E ST IN b d B D T M R rc : Nat) (pre : List UInt8) (w0 : World) (x1 x2 x3 cur : Int) (w : World) : Prop where
  fr : Fr B [E, F, d, b] w0 w
  base : B ≤ w.heap.size ∧ B ≤ E ∧ B ≤ F ∧ B ≤ d
  enc : EncAt E ST IN b d f.subs.length x1 x2 x3 cur w
  frame : FrameAt f fnum F Y ycap w
  dig : ∃ nx, nx < 64 ∧ Dig d nx w
  q : Q16 B D T b M R rc pre [] [] w
  mo : MultiOf B M [.iface 241 (.pointer (some ⟨D, 0, none⟩)), .iface 62 (.pointer (some ⟨b, 0, none⟩))] w
  new : w0.heap.size ≤ M ∧ w0.heap.size ≤ R ∧ w0.heap.size ≤ D ∧ w0.heap.size ≤ T

theorem one_ty {w : World} {k : Nat} {c : Array Value} {T : TypeId} (h : w.heap[k]? = some (.cells c T (0, 0))) : OfTy w [k] [T] := by
  intro i hi
  obtain rfl : i = k := by simpa using hi
  exact ⟨_, _, _, h, by simp⟩

theorem WS.setE {f : PFrame} {fnum : Int} {F Y ycap E ST IN b d B D T M R rc : Nat} {pre : List UInt8} {w0 : World} {x1 x2 x3 cur y1 y2 y3 y4 : Int} {w : World} (h : WS f fnum F Y ycap E ST IN b d B D T M R rc pre w0 x1 x2 x3 cur w) (i : Nat) (v : Value)
    (hv : (#[.pointer (some ⟨ST, 0, none⟩), .iface 62 (.pointer (some ⟨b, 0, none⟩)), .int .u16 x1, .int .u16 x2, .int .u32 0, .int .u32 0, .iface 105 (.pointer (some ⟨d, 0, none⟩)), .int .u64 x3, .int .u64 cur, .bool false] : Array Value).setIfInBounds i v = #[.pointer (some ⟨ST, 0, none⟩), .iface 62 (.pointer (some ⟨b, 0, none⟩)), .int .u16 y1, .int .u16 y2, .int .u32 0, .int .u32 0, .iface 105 (.pointer (some ⟨d, 0, none⟩)), .int .u64 y3, .int .u64 y4, .bool false]) :
    WS f fnum F Y ycap E ST IN b d B D T M R rc pre w0 y1 y2 y3 y4 (w.setCell ⟨E, i, none⟩ v) := by
  have k : Kp [E] w (w.setCell ⟨E, i, none⟩ v) := Kp.setCell _ _ _ (by simp)
  have ty := one_ty h.enc.enc
  have kf : Fr B [E] w (w.setCell ⟨E, i, none⟩ v) := k.fr h.base.1 (by simpa using h.base.2.1)
  obtain ⟨ic, hI, h5⟩ := h.enc.inf
  refine ⟨h.fr.trans (kf.mono (Nat.le_refl _) (by intro k _ hk; simp at hk; simp [hk])), ⟨Nat.le_trans h.base.1 k.size, h.base.2⟩, ⟨?_, k.at h.enc.str (ty.not h.enc.str (by decide)), ic, k.at hI (ty.not hI (by decide)), h5⟩, h.frame.frT kf ty (by decide), Dig.kpT h.dig k ty (by decide), h.q.kpT k ty (by decide), h.mo.kpT k ty (by decide), h.new⟩
  rw [heap_set h.enc.enc, hv]

theorem WS.setF {f : PFrame} {fnum : Int} {F Y ycap E ST IN b d B D T M R rc : Nat} {pre : List UInt8} {w0 : World} {x1 x2 x3 cur v : Int} {w : World} (h : WS f fnum F Y ycap E ST IN b d B D T M R rc pre w0 x1 x2 x3 cur w) :
    WS f v F Y ycap E ST IN b d B D T M R rc pre w0 x1 x2 x3 cur (w.setCell ⟨F, 5, none⟩ (.int .u64 v)) := by
  have k : Kp [F] w (w.setCell ⟨F, 5, none⟩ (.int .u64 v)) := Kp.setCell _ _ _ (by simp)
  have ty := one_ty h.frame.head
  have kf : Fr B [F] w (w.setCell ⟨F, 5, none⟩ (.int .u64 v)) := k.fr h.base.1 (by simpa using h.base.2.2.1)
  refine ⟨h.fr.trans (kf.mono (Nat.le_refl _) (by intro k _ hk; simp at hk; simp [hk])), ⟨Nat.le_trans h.base.1 k.size, h.base.2⟩, h.enc.frT kf ty (by decide), ⟨?_, ?_⟩, Dig.kpT h.dig k ty (by decide), h.q.kpT k ty (by decide), h.mo.kpT k ty (by decide), h.new⟩
  · rw [heap_set h.frame.head]; simp
  · obtain ⟨sc, hY, hx⟩ := h.frame.subs
    refine ⟨sc, k.at hY (ty.not hY (by decide)), fun c s hcs => ?_⟩
    obtain ⟨a, ha, R', P', g', cap', pcap', v4', v5', v6', hs⟩ := hx c s hcs
    refine ⟨a, ha, R', P', g', cap', pcap', v4', v5', v6', hs.fr kf ?_⟩
    obtain ⟨pc, hP, _⟩ := hs.pars
    obtain ⟨sc', hG, _⟩ := hs.smp
    intro i hi
    simp only [List.mem_cons, List.not_mem_nil, or_false] at hi
    rcases hi with rfl | rfl | rfl | rfl
    · exact ty.not hs.sub (by decide)
    · exact ty.not hs.rice (by decide)
    · exact ty.not hP (by decide)
    · exact ty.not hG (by decide)

theorem WS.kpd {f : PFrame} {fnum : Int} {F Y ycap E ST IN b d B D T M R rc : Nat} {pre : List UInt8} {w0 : World} {x1 x2 x3 cur : Int} {w w' : World} (h : WS f fnum F Y ycap E ST IN b d B D T M R rc pre w0 x1 x2 x3 cur w) (k : Kp [d] w w') (hd : ∃ nx, nx < 64 ∧ Dig d nx w') :
    WS f fnum F Y ycap E ST IN b d B D T M R rc pre w0 x1 x2 x3 cur w' := by
  obtain ⟨nx, _, cs, hcs, _⟩ := h.dig
  have ty := one_ty hcs
  have kf : Fr B [d] w w' := k.fr h.base.1 (by simpa using h.base.2.2.2)
  exact ⟨h.fr.trans (kf.mono (Nat.le_refl _) (by intro k _ hk; simp at hk; simp [hk])), ⟨Nat.le_trans h.base.1 k.size, h.base.2⟩, h.enc.frT kf ty (by decide), h.frame.frT kf ty (by decide), hd, h.q.kpT k ty (by decide), h.mo.kpT k ty (by decide), h.new⟩

theorem ownsRow_base {w : World} {B B' : Nat} {e : TypeId} {sz : Nat} {v : Value} {n : Nat} {xs : List Value} (h : w.ownsRow B e sz v n xs) (hb : B' ≤ B) : w.ownsRow B' e sz v n xs := by
  refine ⟨h.1, ?_⟩
  rcases h.2 with h0 | ⟨g, cap, cur, rfl, hb', rest⟩
  · exact .inl h0
  · exact .inr ⟨g, cap, cur, rfl, Nat.le_trans hb hb', rest⟩

theorem wsStart {f : PFrame} {fnum : Int} {F Y ycap E ST IN b d B D T M R rc : Nat} {pre : List UInt8} {w w1 w2 : World} {x1 x2 x3 cur : Int} (hBw : B ≤ w.heap.size) (hBE : B ≤ E) (hBF : B ≤ F) (hBd : B ≤ d)
    (hF : FrameAt f fnum F Y ycap w) (hE : EncAt E ST IN b d f.subs.length x1 x2 x3 cur w) (hD : ∃ nx, nx < 64 ∧ Dig d nx w) (hb : Buf B b pre w)
    (hDb : w.heap.size ≤ D) (hTb : w.heap.size ≤ T) (hD16 : D16 D T 0#16 w1) (k1 : Kp [] w w1) (V : Obj) (hM : (w1.alloc V).heap.size ≤ M) (hR : (w1.alloc V).heap.size ≤ R)
    (hMA : MAt M R rc [.iface 241 (.pointer (some ⟨D, 0, none⟩)), .iface 62 (.pointer (some ⟨b, 0, none⟩))] w2) (hMo : MultiOf (w1.alloc V).heap.size M [.iface 241 (.pointer (some ⟨D, 0, none⟩)), .iface 62 (.pointer (some ⟨b, 0, none⟩))] w2) (k2 : Kp [] (w1.alloc V) w2) :
    WS f fnum F Y ycap E ST IN b d B D T M R rc pre w x1 x2 x3 cur w2 := by
  have kb : Kp [] w w2 := (k1.trans (Kp.alloc _ _ _)).trans k2
  have s1 := k1.size
  simp only [World.size_alloc] at hM hR
  have e0 : OfTy w [] [] := fun _ h => by simp at h
  have kf : Fr B [] w w2 := kb.fr hBw (by simp)
  obtain ⟨v, h1, h2⟩ := hMo
  refine ⟨kf.mono (Nat.le_refl _) (by simp), ⟨Nat.le_trans hBw kb.size, hBE, hBF, hBd⟩, hE.fr kf (by simp) (by simp) (by simp), hF.frT kf e0 (by simp), Dig.kpT hD kb e0 (by simp), ⟨⟨Nat.le_trans hBw kb.size, by omega, by omega, by omega, by omega⟩, hMA, ?_, ?_⟩, ⟨v, h1, ownsRow_base h2 (by simp only [World.size_alloc]; omega)⟩, by omega, by omega, hDb, hTb⟩
  · exact hD16.kp ((Kp.alloc [] _ _).trans k2) (by simp) (by simp)
  · rw [List.append_nil]
    exact hb.kp kb (by simp)

theorem look_sum16 (a : Addr) (w : World) : (method 429 241 (.pointer (some a)) "Sum16").run Tryz.prog w = .ok (187, .pointer (some a)) w := by kernel_rfl
theorem ahead_sum16 (a : Addr) (w : World) : (nilAhead 429 241 (.pointer (some a)) "Sum16").run Tryz.prog w = .ok (some false) w := by kernel_rfl
theorem enter187 (args : Array Value) (w : World) : (callFunc 187 args).run Tryz.prog w = .ok (.enter 187 args) w := Go.Proofs.enters_of Tryz.func187 (by kernel_rfl) rfl args w

/-! ### How many bits there may be -/

theorem flat_le {α : Type} (l : List α) (g : α → List Bool) (K : Nat) (h : ∀ x ∈ l, (g x).length ≤ K) : (l.flatMap g).length ≤ l.length * K := by
  induction l with
  | nil => simp
  | cons a l ih =>
    rw [List.flatMap_cons, List.length_append, List.length_cons, Nat.add_mul]
    have h1 := h a (by simp)
    have h2 := ih fun x hx => h x (by simp [hx])
    omega

theorem bits_le (c : PSub) (bps : Nat) (hok : c.Ok) (hb : bps ≤ 64) : (c.bits bps).length ≤ 120000000 := by
  have hs : (subHead c.kind c.ord).length = 8 := by simp [subHead, bitsN_length]
  have hf := hok.few
  unfold PSub.bits
  rw [List.length_append, hs]
  have hv : ∀ l : List Int, l.length ≤ 256 → (verbB l bps).length ≤ 256 * 64 := fun l hl => by
    rw [verbB_length]; exact Nat.mul_le_mul hl hb
  split
  · rw [bitsN_length]; omega
  · split
    · have := hv _ hf; omega
    · rename_i h0 h1
      have hk : c.kind = 2 := by have := hok.kind; omega
      obtain ⟨hp, hl, hn, ho⟩ := hok.parts hk
      have hr := hok.rests hk
      have h4 : 2 ^ c.parts ≤ 2 ^ 2 := Nat.pow_le_pow_right (by decide) hp
      have hn2 : c.n ≤ 256 := Nat.le_trans (Nat.div_le_self _ _) hf
      have ht := hv (c.smp.take c.ord) (by rw [List.length_take]; omega)
      rw [List.length_append]
      unfold PSub.restBits
      rw [List.length_append, List.length_append, bitsN_length, bitsN_length]
      have hpb : (partsB c.n c.ord (rests c.ord c.smp) c.pars c.pars.length).length ≤ c.pars.length * (4 + 256 * 100016) := by
        unfold partsB
        refine Nat.le_trans (flat_le _ _ (4 + 256 * 100016) ?_) (by rw [List.length_range]; exact Nat.le_refl _)
        intro k hk
        rw [List.mem_range] at hk
        unfold partB
        rw [List.length_append, bitsN_length]
        unfold runB
        refine Nat.add_le_add_left (Nat.le_trans (flat_le _ _ 100016 ?_) ?_) _
        · intro x hx
          have hx' : x ∈ rests c.ord c.smp := List.mem_of_mem_drop (List.mem_of_mem_take hx)
          have hpm : c.pars.getD k 0 ∈ c.pars := by
            rw [List.getD_eq_getElem?_getD, List.getElem?_eq_getElem hk]; exact List.getElem_mem _
          have h1 := hr.par _ hpm
          have h2 := hr.few _ hpm _ hx'
          rw [restB_length]; omega
        · refine Nat.mul_le_mul_right _ ?_
          rw [List.length_take]
          have : partLen c.n c.ord k ≤ c.n := by unfold partLen; split <;> omega
          omega
      have h5 : c.pars.length * (4 + 256 * 100016) ≤ 4 * (4 + 256 * 100016) := Nat.mul_le_mul_right _ (by omega)
      omega

theorem PFrame.head_length (f : PFrame) (num : Nat) : (f.head num).length ≤ 41 := by
  unfold PFrame.head
  rw [List.length_append, List.length_singleton]
  have := headB_length (!f.varies) f.size f.rate f.assign f.bits num
  omega

theorem PFrame.body_take (f : PFrame) (c : Nat) (hc : c < f.subs.length) : (f.subs.take (c + 1)).flatMap (fun s => s.bits f.bits) = (f.subs.take c).flatMap (fun s => s.bits f.bits) ++ (f.subs[c]).bits f.bits := by
  rw [List.take_succ_eq_append_getElem hc, List.flatMap_append]
  simp

theorem PFrame.cnt_le (f : PFrame) (num c : Nat) (hok : f.Ok) : cnt (wrB (f.head num, []) ((f.subs.take c).flatMap (fun s => s.bits f.bits))) ≤ 1000000000 := by
  have h1 := f.head_length num
  rw [cnt_wrB]
  have hb : f.bits ≤ 64 := by have := hok.bits; unfold BpsOk at this; omega
  have h2 := flat_le (f.subs.take c) (fun s => s.bits f.bits) 120000000 (fun s hs => bits_le s f.bits (hok.subs s (List.mem_of_mem_take hs)) hb)
  have h3 : (f.subs.take c).length * 120000000 ≤ 8 * 120000000 := Nat.mul_le_mul_right _ (by rw [List.length_take]; have := hok.few; omega)
  simp only [cnt, List.length_nil]
  omega

theorem bw16Start {B D T b M R rc : Nat} {pre : List UInt8} {hpre : pre.length ≤ 17592186044416} {bs : List UInt8} {w : World} (h : (snk16 B D T b M R rc pre hpre).I w bs) :
    BW (snk16 B D T b M R rc pre hpre) w.heap.size (bs, []) (w.alloc (.cells #[.iface 198 (.pointer (some ⟨M, 0, none⟩)), .int .u8 0, .int .u8 0] 172)) := by
  have hl := (snk16 B D T b M R rc pre hpre).live h
  refine ⟨heap_alloc_new _ _, by simp, hl.1, fun hm => ?_, (snk16 B D T b M R rc pre hpre).alloc h _⟩
  have := (hl.2 _ hm).2.1
  omega

end Go.Proofs.YtemcpcgcnjahjaaGreatDoor
