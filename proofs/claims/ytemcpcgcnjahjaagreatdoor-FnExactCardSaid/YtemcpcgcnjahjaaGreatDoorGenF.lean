/-
  laws.streamOf: headers and samples within their bounds.
-/
import Derived.Test.YtemcpcgcnjahjaaGreatDoorGenG
namespace Go.Proofs.YtemcpcgcnjahjaaGreatDoor
open Go.RowKit

/-- What streamOf comes to. -/
def Streamed (w : World) (e : Ending) (w' : World) : Prop :=
  ∃ (r : RawP) (ns : List Nat) (smp : Nat) (hv av bv : Value), r.Ok ∧ ns.length ≤ 3 ∧ (∀ n ∈ ns, 1 ≤ n ∧ n ≤ 256) ∧ smp ≤ 768 ∧
    e = .returned (.tuple #[.agg #[.int .i64 16, .int .i64 4096, .int .i64 0, .int .i64 0, .int .i64 r.rate, .int .i64 (r.assign + 1 : Nat), .int .i64 r.bits, .int .u64 smp, .slice none 0 0], hv, av, bv]) ∧
    HeadsR r ns hv w.heap.size w' ∧ AllR r ns av w.heap.size w' ∧ Kp [] w w'

theorem datCut {A : Option Addr} {n c k : Nat} {w : World} (h : DatAt A n w) (hk : k ≤ n) (hc : n ≤ c) : DatAt (if c = k then A else A.map (fun a => a.add k)) (n - k) w := fun hp => by
  obtain ⟨b, o, rfl, hcs⟩ := h (by omega)
  rw [if_neg (by omega)]
  refine ⟨b, o + k, by rw [Option.map_some, Lib.addr_add], fun j hj => ?_⟩
  obtain ⟨x, hx, hcx⟩ := hcs (k + j) (by omega)
  exact ⟨x, hx, by rw [Nat.add_assoc]; exact hcx⟩

/-- Between the frames of streamOf. -/
structure SRel (r : RawP) (w : World) (I : Nat) (ns : List Nat) (hv av ov : Value) (wx : World) : Prop where
  heads : HeadsR r ns hv w.heap.size wx
  all : AllR r ns av w.heap.size wx
  out : ∃ (bs : List UInt8) (g cap : Nat), ov = .slice (some ⟨g, 0, none⟩) bs.length cap ∧ wx.ownsRow w.heap.size 5 1 ov bs.length (Lib.byteCells bs) ∧ bs.length ≤ ns.length * 100000000
  inf : wx.heap[I]? = some (.cells #[.int .i64 0, .int .i64 0, .int .i64 0, .int .i64 0, .int .i64 r.rate, .int .i64 ((r.assign : Int) + 1), .int .i64 r.bits, .int .u64 0, .slice none 0 0] 37 (0, 0))
  res : wx.heap[w.heap.size]? = some (.cells #[.int .i64 0, .int .i64 0, .int .i64 0, .int .i64 0, .int .i64 0, .int .i64 0, .int .i64 0, .int .u64 0, .slice none 0 0] 37 (0, 0))
  kp : Kp [] w wx

theorem SRel.keep {r : RawP} {w : World} {I : Nat} {ns : List Nat} {hv av ov : Value} {wx wy : World} (h : SRel r w I ns hv av ov wx) (k : Kp [] wx wy) : SRel r w I ns hv av ov wy := by
  obtain ⟨bs, g, cap, e, h1, h2⟩ := h.out
  exact ⟨h.heads.kpT k (OfTy.nil _ [1]) (by decide), h.all.kpT k (OfTy.nil _ [1]) (by decide), ⟨bs, g, cap, e, ownsRow_kp h1 k (fun _ _ => by simp), h2⟩, k.at h.inf (by simp), k.at h.res (by simp), h.kp.trans k⟩

theorem SRel.start {r : RawP} {w w2 : World} {I : Nat} (hin : w2.heap[I]? = some (.cells #[.int .i64 0, .int .i64 0, .int .i64 0, .int .i64 0, .int .i64 r.rate, .int .i64 ((r.assign : Int) + 1), .int .i64 r.bits, .int .u64 0, .slice none 0 0] 37 (0, 0)))
    (hres : w2.heap[w.heap.size]? = some (.cells #[.int .i64 0, .int .i64 0, .int .i64 0, .int .i64 0, .int .i64 0, .int .i64 0, .int .i64 0, .int .u64 0, .slice none 0 0] 37 (0, 0))) (hkp : Kp [] w w2) :
    SRel r w I [] (.slice (some ⟨w2.heap.size + 1, 0, none⟩) 0 0) (.slice (some ⟨w2.heap.size + 1 + 1, 0, none⟩) 0 0) (.slice (some ⟨w2.heap.size + 1 + 1 + 1, 0, none⟩) 0 0) ((((w2.alloc (.cells #[] 93)).alloc (.cells #[] 43)).alloc (.cells #[] 47)).alloc (.cells #[] 5)) := by
  have hsz := hkp.size
  have k4 : Kp [] w2 ((((w2.alloc (.cells #[] 93)).alloc (.cells #[] 43)).alloc (.cells #[] 47)).alloc (.cells #[] 5)) := (((Kp.alloc _ _ _).trans (Kp.alloc _ _ _)).trans (Kp.alloc _ _ _)).trans (Kp.alloc _ _ _)
  refine ⟨?_, ?_, ?_, k4.at hin (by simp), k4.at hres (by simp), hkp.trans k4⟩
  · have h := World.ownsRow_made (base := w.heap.size) (e := 43) (size := 6) (w2.alloc (.cells #[] 93)) #[] 0 (by simp only [World.size_alloc]; omega) (by decide) rfl
    rw [World.size_alloc] at h
    exact ⟨_, _, [], rfl, (h.alloc _).alloc _, fun k n hk => by simp at hk⟩
  · have h := World.ownsRow_made (base := w.heap.size) (e := 47) (size := 1) ((w2.alloc (.cells #[] 93)).alloc (.cells #[] 43)) #[] 0 (by simp only [World.size_alloc]; omega) (by decide) rfl
    rw [World.size_alloc, World.size_alloc] at h
    exact ⟨_, _, [], rfl, h.alloc _, fun k n hk => by simp at hk⟩
  · have h := World.ownsRow_made (base := w.heap.size) (e := 5) (size := 1) (((w2.alloc (.cells #[] 93)).alloc (.cells #[] 43)).alloc (.cells #[] 47)) #[] 0 (by simp only [World.size_alloc]; omega) (by decide) rfl
    rw [World.size_alloc, World.size_alloc, World.size_alloc] at h
    exact ⟨[], _, _, rfl, h, by simp⟩

/-- Channels under way. -/
def ChOwn (T : Int) (n B c : Nat) (v : Value) (w : World) : Prop :=
  ∃ g cap rows, v = .slice (some ⟨g, 0, none⟩) c cap ∧ w.ownsRow B 48 1 v c rows ∧ ∀ d, d < c → ∃ g cap xs, rows[d]? = some (.slice (some ⟨g, 0, none⟩) n cap) ∧ xs.length = n ∧ (∀ x ∈ xs, -T ≤ x ∧ x < T) ∧ IntAt g xs w
theorem ChOwn.at {T : Int} {n B c : Nat} {v : Value} {w : World} (h : ChOwn T n B c v w) : ∃ a cap, v = .slice (some ⟨a, 0, none⟩) c cap ∧ ChansT T c n a w := by
  obtain ⟨g, cap, rows, rfl, hown, hc⟩ := h
  obtain ⟨_, cur, hg, hx⟩ := ownsRow_at hown
  refine ⟨g, cap, rfl, cur, hg, fun d hd => ?_⟩
  obtain ⟨g', cap', xs, h1, h2⟩ := hc d hd
  exact ⟨g', cap', xs, hx _ _ h1, h2⟩
theorem ChOwn.push {T : Int} {n B c gr capr g5 cap5 : Nat} {g gcap : Nat} {xs : List Int} {wr w3 : World} {O : Obj} {rows : List Value} (hown : wr.ownsRow B 48 1 (.slice (some ⟨gr, 0, none⟩) c capr) c rows)
    (hcl : ∀ d, d < c → ∃ g cap xs, rows[d]? = some (.slice (some ⟨g, 0, none⟩) n cap) ∧ xs.length = n ∧ (∀ x ∈ xs, -T ≤ x ∧ x < T) ∧ IntAt g xs wr)
    (hxl : xs.length = n) (hxb : ∀ x ∈ xs, -T ≤ x ∧ x < T) (hg : IntAt g xs wr) (hgrow : (wr.alloc O).grownBy w3 (Value.slice (some ⟨gr, 0, none⟩) c capr).ownBlock)
    (hown3 : w3.ownsRow B 48 1 (.slice (some ⟨g5, 0, none⟩) (c + 1) cap5) (c + 1) (rows ++ [.slice (some ⟨g, 0, none⟩) n gcap])) : ChOwn T n B (c + 1) (.slice (some ⟨g5, 0, none⟩) (c + 1) cap5) w3 ∧ Kp [gr] wr w3 ∧ B ≤ gr := by
  obtain ⟨k1, _, hb⟩ := growKp (hown.alloc O) hgrow
  have ty : OfTy wr [gr] [48] := by
    obtain ⟨_, cur, h, _⟩ := ownsRow_at hown
    exact one_ty h
  have k2 : Kp [gr] wr w3 := ((Kp.alloc [] wr O).mono (by simp)).trans (k1.mono (by intro j _ hj; simpa [Value.ownBlock] using hj))
  refine ⟨⟨g5, cap5, _, rfl, hown3, fun d hd => ?_⟩, k2, hb gr (by simp [Value.ownBlock])⟩
  have hl := hown.1
  rcases Nat.lt_or_ge d c with h | h
  · obtain ⟨g', cap', xs', h1, h2, h3, h4⟩ := hcl d h
    refine ⟨g', cap', xs', ?_, h2, h3, h4.kpT k2 ty (by decide)⟩
    rw [List.getElem?_append_left (List.getElem?_eq_some_iff.1 h1).1]
    exact h1
  · obtain rfl : d = c := by omega
    refine ⟨g, gcap, xs, ?_, hxl, hxb, hg.kpT k2 ty (by decide)⟩
    rw [List.getElem?_append_right (by omega), hl, Nat.mul_one, Nat.sub_self]
    rfl
theorem ChOwn.kp {T : Int} {n B c : Nat} {v : Value} {w w' : World} (h : ChOwn T n B c v w) (k : Kp [] w w') : ChOwn T n B c v w' := by
  obtain ⟨g, cap, rows, rfl, hown, hc⟩ := h
  refine ⟨g, cap, rows, rfl, ownsRow_kp hown k (fun _ _ => by simp), fun d hd => ?_⟩
  obtain ⟨g', cap', xs, h1, h2, h3, h4⟩ := hc d hd
  exact ⟨g', cap', xs, h1, h2, h3, h4.kp k (by simp)⟩

theorem ChOwn.cellKp {T : Int} {n d : Nat} {rows : List Value} {w w' : World} (h : ∃ g cap xs, rows[d]? = some (.slice (some ⟨g, 0, none⟩) n cap) ∧ xs.length = n ∧ (∀ x ∈ xs, -T ≤ x ∧ x < T) ∧ IntAt g xs w) (k : Kp [] w w') :
    ∃ g cap xs, rows[d]? = some (.slice (some ⟨g, 0, none⟩) n cap) ∧ xs.length = n ∧ (∀ x ∈ xs, -T ≤ x ∧ x < T) ∧ IntAt g xs w' := by
  obtain ⟨g', cap', xs, h1, h2, h3, h4⟩ := h
  exact ⟨g', cap', xs, h1, h2, h3, h4.kp k (by simp)⟩

def ratesR : List Int := [44100, 8000, 12345, 96000, 48000, 655350, 176400]
def bitsR : List Int := [16, 8, 24, 20, 12]

theorem list_cell (l : List Int) (w : World) (j : Nat) (hj : j < l.length) : (w.alloc (.cells (l.map (Value.int .i64)).toArray 3)).cell? ⟨w.heap.size, j, none⟩ = some (.int .i64 (l.getD j 0)) := by
  rw [Lib.cell_of_heap (heap_alloc_new _ _), List.getElem?_toArray, List.getElem?_map, List.getD_eq_getElem?_getD, List.getElem?_eq_getElem hj]
  rfl

theorem u8b (x : Int) : 0 ≤ IntKind.u8.wrap x ∧ IntKind.u8.wrap x < 256 := by rw [IntKind.wrap_u8]; omega
theorem lawSoundI (kd : Int) (size bits n c : Nat) (A : Option Addr) (w : World) (hk : 0 ≤ kd ∧ kd < 256) (hsz : size ≤ 256) (hb : BpsOk bits) (hn : n ≤ 1000) (hd : DatAt A n w) :
    Calls Tryz.prog 20 #[.int .u8 kd, .int .i64 size, .int .i64 bits, .slice A n c] w (Sounded size (2 ^ (bits - 1)) w) := by
  obtain ⟨m, rfl⟩ := Int.eq_ofNat_of_zero_le hk.1
  exact lawSound m size bits n c A w (by omega) hsz hb hn hd
theorem Tryz.info47 : (Tryz.prog.info? 47).map (fun i => (i.zero, i.size, i.bytes)) = some (some (.slice none 0 0), 1, 24) := by kernel_rfl
theorem Tryz.info48 : (Tryz.prog.info? 48).map (fun i => (i.zero, i.size, i.bytes)) = some (some (.slice none 0 0), 1, 24) := by kernel_rfl

theorem al3 (w : World) (A B C : Obj) : (((w.alloc A).alloc B).alloc C).heap[w.heap.size]? = some A ∧ (((w.alloc A).alloc B).alloc C).heap[w.heap.size + 1]? = some B ∧ (((w.alloc A).alloc B).alloc C).heap[w.heap.size + 1 + 1]? = some C ∧ Kp [] w (((w.alloc A).alloc B).alloc C) := by
  refine ⟨heap_alloc (heap_alloc (heap_alloc_new _ _)), ?_, ?_, ((Kp.alloc _ _ _).trans (Kp.alloc _ _ _)).trans (Kp.alloc _ _ _)⟩
  · have h := heap_alloc_new (w.alloc A) B
    rw [World.size_alloc] at h
    exact heap_alloc h
  · have h := heap_alloc_new ((w.alloc A).alloc B) C
    rw [World.size_alloc, World.size_alloc] at h
    exact h
theorem ratesR_ok (j : Nat) (h : j < 7) : RateOk (ratesR[j]?.getD 0) := by
  rcases (by omega : j = 0 ∨ j = 1 ∨ j = 2 ∨ j = 3 ∨ j = 4 ∨ j = 5 ∨ j = 6) with rfl | rfl | rfl | rfl | rfl | rfl | rfl <;> (unfold RateOk; decide)
theorem bitsR_ok (j : Nat) (h : j < 5) : BpsOk (bitsR[j]?.getD 0) := by
  rcases (by omega : j = 0 ∨ j = 1 ∨ j = 2 ∨ j = 3 ∨ j = 4) with rfl | rfl | rfl | rfl | rfl <;> (unfold BpsOk; decide)

/-- append onto a row of the call's own, at a step of a region that draws: also of nothing. -/
theorem step_append_any {P : Program} (w : World) {ops : Array Oper} {o : Oper} {a : Act} {K : Act → World → Prop} {Q : Exit → Act → World → Prop} {E : Prop} (hgd : o.guard = none) (s x : Operand) (t : TypeId)
    (ho : o.op = .call { callee := .builtin .append, args := #[s, x], argTypes := #[t, t] })
    (base : Nat) (e : TypeId) (i : TypeInfo) (z : Value) (size bytes : Nat) (ht : P.underlying t = some (.slice e)) (hi : P.info? e = some i) (hz : i.zero = some z)
    (hsize : i.size = size) (hby : i.bytes = bytes) (hzs : z.cells.size = size) (hsz : 0 < size)
    (v : Value) (n : Nat) (xs : List Value) (hs : a.eval s = v) (hown : w.ownsRow base e size v n xs)
    (ad : Addr) (m c : Nat) (news : List Value) (hx : a.eval x = .slice (some ad) m c) (hl : news.length = m * size) (hnews : ∀ j u, news[j]? = some u → w.cell? (ad.add j) = some u) (h1 : ∀ u ∈ news, u.oneCell' = true)
    (h63 : n + m ≤ maxLen) (hbytes : (n + m) * bytes ≤ 140737488355328) (hbase : base ≤ w.heap.size)
    (h : ∀ v' w', w'.ownsRow base e size v' (n + m) (xs ++ news) → w.grownBy w' v.ownBlock → K (a.put o.dst v') w') :
    if Region.wanted o (yielded ops a.tmps) = true then Oper.wp P o a w K Q else E := by
  have hw : Region.wanted o (yielded ops a.tmps) = true := by simp [Region.wanted, hgd]
  rw [if_pos hw]
  obtain ⟨v', w', hr, h2, h3, _⟩ := run_append_own_at (P := P) w base t o.type e i z size bytes ht hi hz hsize hby hzs hsz v n xs hown ad m c news hl hnews h1 h63 hbytes hbase
  unfold Oper.wp execOp
  simp only [ho, resolve, invoke, builtin, Sem.run_bind, Sem.run_pure, Result.andThen_ok, List.map_toArray, List.map_cons, List.map_nil, hs, hx, hr]
  exact h v' w' h2 h3

/-- At the end of streamOf. -/
structure TailEnd (r : RawP) (ns : List Nat) (w : World) (I dd : Nat) (hv av : Value) (wx : World) : Prop where
  inf : wx.heap[I]? = some (.cells #[.int .i64 16, .int .i64 4096, .int .i64 0, .int .i64 0, .int .i64 r.rate, .int .i64 ((r.assign : Int) + 1), .int .i64 r.bits, .int .u64 dd, .slice none 0 0] 37 (0, 0))
  res : wx.heap[w.heap.size]? = some (.cells #[.int .i64 0, .int .i64 0, .int .i64 0, .int .i64 0, .int .i64 0, .int .i64 0, .int .i64 0, .int .u64 0, .slice none 0 0] 37 (0, 0))
  heads : HeadsR r ns hv w.heap.size wx
  all : AllR r ns av w.heap.size wx
  kp : Kp [] w wx
theorem TailEnd.mk' {r : RawP} {ns : List Nat} {w w0 wF : World} {I dd b n : Nat} {hv av v : Value} {xs : List Value} (hown : w0.ownsRow b 5 1 v n xs) (hg : w0.grownBy wF v.ownBlock)
    (h1 : w0.heap[I]? = some (.cells #[.int .i64 16, .int .i64 4096, .int .i64 0, .int .i64 0, .int .i64 r.rate, .int .i64 ((r.assign : Int) + 1), .int .i64 r.bits, .int .u64 dd, .slice none 0 0] 37 (0, 0)))
    (h2 : w0.heap[w.heap.size]? = some (.cells #[.int .i64 0, .int .i64 0, .int .i64 0, .int .i64 0, .int .i64 0, .int .i64 0, .int .i64 0, .int .u64 0, .slice none 0 0] 37 (0, 0)))
    (hh : HeadsR r ns hv w.heap.size w0) (ha : AllR r ns av w.heap.size w0) (hk : Kp [] w w0) (hb : w.heap.size < b) (hI : I < b) : TailEnd r ns w I dd hv av wF := by
  obtain ⟨k1, ty, hbb⟩ := growKp hown hg
  exact ⟨k1.at h1 (fun hm => by have := hbb _ hm; omega), k1.at h2 (fun hm => by have := hbb _ hm; omega), hh.kpT k1 ty (by decide), ha.kpT k1 ty (by decide), hk.new k1 (fun i hi => by have := hbb i hi; omega)⟩
theorem TailEnd.facts {r : RawP} {ns : List Nat} {w : World} {I dd : Nat} {hv av : Value} {wx : World} (h : TailEnd r ns w I dd hv av wx) :
    wx.cell? ⟨I, 0, none⟩ = some (.int .i64 16) ∧ wx.cell? ⟨I, 1, none⟩ = some (.int .i64 4096) ∧ wx.cell? ⟨I, 2, none⟩ = some (.int .i64 0) ∧ wx.cell? ⟨I, 3, none⟩ = some (.int .i64 0) ∧ wx.cell? ⟨I, 4, none⟩ = some (.int .i64 r.rate) ∧ wx.cell? ⟨I, 5, none⟩ = some (.int .i64 ((r.assign : Int) + 1)) ∧ wx.cell? ⟨I, 6, none⟩ = some (.int .i64 r.bits) ∧ wx.cell? ⟨I, 7, none⟩ = some (.int .u64 dd) ∧ wx.cell? ⟨I, 8, none⟩ = some (.slice none 0 0) ∧
    wx.frozen? ⟨w.heap.size, 0, none⟩ = false ∧ wx.frozen? ⟨w.heap.size, 1, none⟩ = false ∧ wx.frozen? ⟨w.heap.size, 2, none⟩ = false ∧ wx.frozen? ⟨w.heap.size, 3, none⟩ = false ∧ wx.frozen? ⟨w.heap.size, 4, none⟩ = false ∧ wx.frozen? ⟨w.heap.size, 5, none⟩ = false ∧ wx.frozen? ⟨w.heap.size, 6, none⟩ = false ∧ wx.frozen? ⟨w.heap.size, 7, none⟩ = false ∧ wx.frozen? ⟨w.heap.size, 8, none⟩ = false ∧
    wx.cell? ⟨w.heap.size, 0, none⟩ = some (.int .i64 0) ∧ wx.cell? ⟨w.heap.size, 1, none⟩ = some (.int .i64 0) ∧ wx.cell? ⟨w.heap.size, 2, none⟩ = some (.int .i64 0) ∧ wx.cell? ⟨w.heap.size, 3, none⟩ = some (.int .i64 0) ∧ wx.cell? ⟨w.heap.size, 4, none⟩ = some (.int .i64 0) ∧ wx.cell? ⟨w.heap.size, 5, none⟩ = some (.int .i64 0) ∧ wx.cell? ⟨w.heap.size, 6, none⟩ = some (.int .i64 0) ∧ wx.cell? ⟨w.heap.size, 7, none⟩ = some (.int .u64 0) ∧ wx.cell? ⟨w.heap.size, 8, none⟩ = some (.slice none 0 0) :=
  ⟨Lib.cell_of_heap h.inf 0, Lib.cell_of_heap h.inf 1, Lib.cell_of_heap h.inf 2, Lib.cell_of_heap h.inf 3, Lib.cell_of_heap h.inf 4, Lib.cell_of_heap h.inf 5, Lib.cell_of_heap h.inf 6, Lib.cell_of_heap h.inf 7, Lib.cell_of_heap h.inf 8,
    Lib.frozen_of_heap h.res 0, Lib.frozen_of_heap h.res 1, Lib.frozen_of_heap h.res 2, Lib.frozen_of_heap h.res 3, Lib.frozen_of_heap h.res 4, Lib.frozen_of_heap h.res 5, Lib.frozen_of_heap h.res 6, Lib.frozen_of_heap h.res 7, Lib.frozen_of_heap h.res 8,
    Lib.cell_of_heap h.res 0, Lib.cell_of_heap h.res 1, Lib.cell_of_heap h.res 2, Lib.cell_of_heap h.res 3, Lib.cell_of_heap h.res 4, Lib.cell_of_heap h.res 5, Lib.cell_of_heap h.res 6, Lib.cell_of_heap h.res 7, Lib.cell_of_heap h.res 8⟩

set_option maxRecDepth 100000 in
set_option maxHeartbeats 8000000 in
/-- laws.streamOf. -/
theorem lawStream (F sn sc dn dc : Nat) (SA DA : Option Addr) (w : World) (hF : F < 4294967296) (hA : F / 64 % 11 < 8) (hsn : sn ≤ 2147483647) (hs : DatAt SA (min sn 3) w) (hsc : sn ≤ sc) (hd : DatAt DA dn w) (hdn : dn ≤ 1000) (hdc : dn ≤ dc) :
    Calls Tryz.prog 8 #[.int .u32 F, .slice SA sn sc, .slice DA dn dc, .slice none 0 0] w (Streamed w) := by
  go_enter Tryz.func8, Tryz.ntmps8
  go_upto_region 1 with fail
  go_cut [12] from 34 to 45 (fun v wx => ∃ (I : Nat) (rt bt : Int), v = .pointer (some ⟨I, 0, none⟩) ∧ w.heap.size < I ∧ RateOk rt ∧ BpsOk bt ∧ wx.heap[I]? = some (.cells #[.int .i64 0, .int .i64 0, .int .i64 0, .int .i64 0, .int .i64 rt, .int .i64 0, .int .i64 bt, .int .u64 0, .slice none 0 0] 37 (0, 0)) ∧ wx.heap[w.heap.size]? = some (.cells #[.int .i64 0, .int .i64 0, .int .i64 0, .int .i64 0, .int .i64 0, .int .i64 0, .int .i64 0, .int .u64 0, .slice none 0 0] 37 (0, 0)) ∧ Kp [] w wx)
  case first =>
    have hO := heap_alloc_new w (.cells #[.int .i64 0, .int .i64 0, .int .i64 0, .int .i64 0, .int .i64 0, .int .i64 0, .int .i64 0, .int .u64 0, .slice none 0 0] 37)
    have hK0 := Kp.alloc [] w (.cells #[.int .i64 0, .int .i64 0, .int .i64 0, .int .i64 0, .int .i64 0, .int .i64 0, .int .i64 0, .int .u64 0, .slice none 0 0] 37)
    have hW := Lib.lt_of_heap hO
    generalize w.alloc (.cells #[.int .i64 0, .int .i64 0, .int .i64 0, .int .i64 0, .int .i64 0, .int .i64 0, .int .i64 0, .int .u64 0, .slice none 0 0] 37) = W0 at hO hK0 hW ⊢
    have HO := Bx.mk hO
    have HK0 := Bx.mk hK0
    clear hO hK0 hs hd hA hsn hsc hdn hdc
    have f7 := Nat.mod_lt F (show 0 < 7 by decide)
    have f5 := Nat.mod_lt (F / 8) (show 0 < 5 by decide)
    have h7 : Int.tmod (F : Int) 7 = ((F % 7 : Nat) : Int) := by rw [Int.tmod_eq_emod_of_nonneg (by omega)]; rfl
    have h8 : (F : Int) / 2 ^ 3 = ((F / 8 : Nat) : Int) := by omega
    have h5 : Int.tmod ((F / 8 : Nat) : Int) 5 = ((F / 8 % 5 : Nat) : Int) := by rw [Int.tmod_eq_emod_of_nonneg (by omega)]; rfl
    have h8b : F / 8 < 4294967296 := by omega
    have c7a : (W0.alloc (.cells #[.int .i64 44100, .int .i64 8000, .int .i64 12345, .int .i64 96000, .int .i64 48000, .int .i64 655350, .int .i64 176400] 3)).cell? ⟨W0.heap.size, F % 7, none⟩ = some (.int .i64 (ratesR.getD (F % 7) 0)) := list_cell ratesR W0 _ f7
    have c7b : ∀ O, ((W0.alloc (.cells #[.int .i64 44100, .int .i64 8000, .int .i64 12345, .int .i64 96000, .int .i64 48000, .int .i64 655350, .int .i64 176400] 3)).alloc O).cell? ⟨W0.heap.size, F % 7, none⟩ = some (.int .i64 (ratesR.getD (F % 7) 0)) := fun O => by
      rw [World.cell?_alloc_lt _ _ _ (by simp only [World.size_alloc]; omega)]; exact c7a
    have c7c : ∀ O Q, (((W0.alloc (.cells #[.int .i64 44100, .int .i64 8000, .int .i64 12345, .int .i64 96000, .int .i64 48000, .int .i64 655350, .int .i64 176400] 3)).alloc O).alloc Q).cell? ⟨W0.heap.size, F % 7, none⟩ = some (.int .i64 (ratesR.getD (F % 7) 0)) := fun O Q => by
      rw [World.cell?_alloc_lt _ _ _ (by simp only [World.size_alloc]; omega)]; exact c7b O
    have c7d : ∀ X, ((W0.alloc X).alloc (.cells #[.int .i64 44100, .int .i64 8000, .int .i64 12345, .int .i64 96000, .int .i64 48000, .int .i64 655350, .int .i64 176400] 3)).cell? ⟨W0.heap.size + 1, F % 7, none⟩ = some (.int .i64 (ratesR.getD (F % 7) 0)) := fun X => by
      have h := list_cell ratesR (W0.alloc X) _ f7
      rw [World.size_alloc] at h
      exact h
    have c7e : ∀ X O, (((W0.alloc X).alloc (.cells #[.int .i64 44100, .int .i64 8000, .int .i64 12345, .int .i64 96000, .int .i64 48000, .int .i64 655350, .int .i64 176400] 3)).alloc O).cell? ⟨W0.heap.size + 1, F % 7, none⟩ = some (.int .i64 (ratesR.getD (F % 7) 0)) := fun X O => by
      rw [World.cell?_alloc_lt _ _ _ (by simp only [World.size_alloc]; omega)]; exact c7d X
    have c7f : ∀ X Y, (((W0.alloc X).alloc Y).alloc (.cells #[.int .i64 44100, .int .i64 8000, .int .i64 12345, .int .i64 96000, .int .i64 48000, .int .i64 655350, .int .i64 176400] 3)).cell? ⟨W0.heap.size + 1 + 1, F % 7, none⟩ = some (.int .i64 (ratesR.getD (F % 7) 0)) := fun X Y => by
      have h := list_cell ratesR ((W0.alloc X).alloc Y) _ f7
      rw [World.size_alloc, World.size_alloc] at h
      exact h
    have c5a : (W0.alloc (.cells #[.int .i64 16, .int .i64 8, .int .i64 24, .int .i64 20, .int .i64 12] 3)).cell? ⟨W0.heap.size, F / 8 % 5, none⟩ = some (.int .i64 (bitsR.getD (F / 8 % 5) 0)) := list_cell bitsR W0 _ f5
    have c5b : ∀ O, ((W0.alloc (.cells #[.int .i64 16, .int .i64 8, .int .i64 24, .int .i64 20, .int .i64 12] 3)).alloc O).cell? ⟨W0.heap.size, F / 8 % 5, none⟩ = some (.int .i64 (bitsR.getD (F / 8 % 5) 0)) := fun O => by
      rw [World.cell?_alloc_lt _ _ _ (by simp only [World.size_alloc]; omega)]; exact c5a
    have c5c : ∀ O Q, (((W0.alloc (.cells #[.int .i64 16, .int .i64 8, .int .i64 24, .int .i64 20, .int .i64 12] 3)).alloc O).alloc Q).cell? ⟨W0.heap.size, F / 8 % 5, none⟩ = some (.int .i64 (bitsR.getD (F / 8 % 5) 0)) := fun O Q => by
      rw [World.cell?_alloc_lt _ _ _ (by simp only [World.size_alloc]; omega)]; exact c5b O
    have c5d : ∀ X, ((W0.alloc X).alloc (.cells #[.int .i64 16, .int .i64 8, .int .i64 24, .int .i64 20, .int .i64 12] 3)).cell? ⟨W0.heap.size + 1, F / 8 % 5, none⟩ = some (.int .i64 (bitsR.getD (F / 8 % 5) 0)) := fun X => by
      have h := list_cell bitsR (W0.alloc X) _ f5
      rw [World.size_alloc] at h
      exact h
    have c5e : ∀ X O, (((W0.alloc X).alloc (.cells #[.int .i64 16, .int .i64 8, .int .i64 24, .int .i64 20, .int .i64 12] 3)).alloc O).cell? ⟨W0.heap.size + 1, F / 8 % 5, none⟩ = some (.int .i64 (bitsR.getD (F / 8 % 5) 0)) := fun X O => by
      rw [World.cell?_alloc_lt _ _ _ (by simp only [World.size_alloc]; omega)]; exact c5d X
    have c5f : ∀ X Y, (((W0.alloc X).alloc Y).alloc (.cells #[.int .i64 16, .int .i64 8, .int .i64 24, .int .i64 20, .int .i64 12] 3)).cell? ⟨W0.heap.size + 1 + 1, F / 8 % 5, none⟩ = some (.int .i64 (bitsR.getD (F / 8 % 5) 0)) := fun X Y => by
      have h := list_cell bitsR ((W0.alloc X).alloc Y) _ f5
      rw [World.size_alloc, World.size_alloc] at h
      exact h
    have hre := Bx.mk (ratesR_ok _ f7)
    have hbe := Bx.mk (bitsR_ok _ f5)
    go_region
    all_goals
      clear c7a c7b c7c c7d c7e c7f c5a c5b c5c c5d c5e c5f
      go_wp2_with fail
      go_meet
      case rel =>
        have h3 := al3 W0
        refine ⟨_, _, _, rfl, by omega, hre.out, hbe.out, ?_, ?_, ?_⟩
        · first
            | exact (h3 _ _ _).1
            | exact (h3 _ _ _).2.1
            | exact (h3 _ _ _).2.2.1
        · exact ((h3 _ _ _).2.2.2.trans (Kp.drew _ _)).at HO.out (by simp)
        · exact HK0.out.trans ((h3 _ _ _).2.2.2.trans (Kp.drew _ _))
  case rest =>
    obtain ⟨I, rt, bt, rfl, hI, hrt, hbt, hin, hres, hkp⟩ := hcut
    have HIN := Bx.mk hin
    have HRS := Bx.mk hres
    have HKP := Bx.mk hkp
    have HS := Bx.mk hs
    have HD := Bx.mk hd
    have hrt0 : 0 ≤ rt := by unfold RateOk at hrt; omega
    have hbt0 : 0 ≤ bt := by unfold BpsOk at hbt; omega
    obtain ⟨rN, rfl⟩ := Int.eq_ofNat_of_zero_le hrt0
    obtain ⟨bN, rfl⟩ := Int.eq_ofNat_of_zero_le hbt0
    have HRT := Bx.mk hrt
    have HBT := Bx.mk hbt
    clear hin hres hkp hs hd hrt hbt hrt0 hbt0
    generalize hasg : F / 64 % 11 = asg at hA
    go_upto_region 2 with fail
    go_cut [13] from 46 to 49 (fun v wx => v = .int .i64 (asg : Nat) ∧ wc = wx)
    case first =>
      clear HIN HRS HKP HS HD HRT HBT
      go_wp2_with fail
      go_meet
      case rel =>
        refine ⟨?_, rfl⟩
        congr 1
        omega
    case rest =>
      obtain ⟨rfl, rfl⟩ := hcut
      have i5 := Lib.cell_of_heap HIN.out 5
      have z5 := Lib.frozen_of_heap HIN.out 5
      simp only [List.getElem?_toArray, List.getElem?_cons_zero, List.getElem?_cons_succ] at i5
      clear hasg
      go_wp2_with fail
      refine (specChannels asg hA _).mono ?_
      rintro e w1 ⟨rfl, rfl⟩
      go_upto_region 4 with fail
      clear i5 z5
      have HIN1 : Bx ((w1.setCell ⟨I, 5, none⟩ (.int .i64 (asg + 1 : Nat))).heap[I]? = some (.cells #[.int .i64 0, .int .i64 0, .int .i64 0, .int .i64 0, .int .i64 rN, .int .i64 (asg + 1 : Nat), .int .i64 bN, .int .u64 0, .slice none 0 0] 37 (0, 0))) := ⟨heap_set HIN.out⟩
      have hsc0 : Kp [I] w1 (w1.setCell ⟨I, 5, none⟩ (.int .i64 (asg + 1 : Nat))) := Kp.setCell _ _ _ (by simp)
      have HRS1 := Bx.mk (hsc0.at HRS.out (by simp; omega))
      have HKP1 := Bx.mk (HKP.out.new hsc0 (by simp; omega))
      clear hsc0 HIN HRS HKP
      have hpc : ((asg + 1 : Nat) : Int) = (asg : Int) + 1 := by omega
      rw [hpc] at HIN1 HRS1 HKP1
      clear hpc
      generalize w1.setCell ⟨I, 5, none⟩ (.int .i64 ((asg : Int) + 1)) = w2 at HIN1 HRS1 HKP1 ⊢
      go_wp2_with fail
      go_loop [14, 60] (fun l j => j = .int .i64 0 ∧ l = .slice (some ⟨w2.heap.size, 0, none⟩) 0 0) (fun _ _ => 0)
      case atStart => exact ⟨rfl, rfl⟩
      case round =>
        obtain ⟨rfl, rfl⟩ := hrel
        go_upto_region 10 with fail
        go_cut [17] from 70 to 74 (fun v wx => ∃ base : Nat, 16 ≤ base ∧ base ≤ 255 ∧ v = .int .i64 base ∧ w2.alloc (.cells #[] 93) = wx)
        case first =>
          clear HIN1 HRS1 HKP1 HS HD HRT HBT
          go_wp2_with fail
          go_meet
          case rel => exact ⟨16 + F / 1024 % 240, by omega, by omega, by first | rfl | (congr 1; omega), rfl⟩
        case rest =>
          obtain ⟨base, hb1, hb2, rfl, rfl⟩ := hcut
          go_upto_region 11 with fail
          go_cut [18] from 75 to 78 (fun v wx => ∃ va : Bool, v = .bool va ∧ w2.alloc (.cells #[] 93) = wx)
          case first =>
            clear HIN1 HRS1 HKP1 HS HD HRT HBT
            go_wp2_with fail
            go_meet
            case rel => exact ⟨_, rfl, rfl⟩
          case rest =>
            obtain ⟨va, rfl, rfl⟩ := hcut
            have HST : Bx (SRel ⟨va, rN, asg, bN⟩ w I [] (.slice (some ⟨w2.heap.size + 1, 0, none⟩) 0 0) (.slice (some ⟨w2.heap.size + 1 + 1, 0, none⟩) 0 0) (.slice (some ⟨w2.heap.size + 1 + 1 + 1, 0, none⟩) 0 0) ((((w2.alloc (.cells #[] 93)).alloc (.cells #[] 43)).alloc (.cells #[] 47)).alloc (.cells #[] 5))) := ⟨SRel.start HIN1.out HRS1.out HKP1.out⟩
            clear HIN1 HRS1 HKP1
            have hmn : min (sn : Int) 3 = ((min sn 3 : Nat) : Int) := by omega
            generalize hm : min sn 3 = m at HS hmn
            have hm3 : m ≤ 3 := by omega
            have hms : m ≤ sn := by omega
            have hmc : (m : Int) ≤ (sc : Int) := by omega
            have hm0 : (0 : Int) ≤ (m : Int) := by omega
            have HM := Bx.mk hm
            clear hm
            go_wp2_with fail
            generalize (((w2.alloc (.cells #[] 93)).alloc (.cells #[] 43)).alloc (.cells #[] 47)).alloc (.cells #[] 5) = w4 at HST ⊢
            go_loopw [19, 20, 21, 22, 88] (fun hv av ov dv j wx => ∃ ns : List Nat, ns.length ≤ m ∧ j = .int .i64 ns.length ∧ dv = .int .i64 ns.sum ∧ (∀ n ∈ ns, 1 ≤ n ∧ n ≤ 256) ∧ SRel ⟨va, rN, asg, bN⟩ w I ns hv av ov wx) (fun _ _ _ _ j _ => m - (intOf j).toNat)
            case atStart => exact ⟨[], by simp, rfl, rfl, by simp, HST.out⟩
            case round =>
              clear HST
              obtain ⟨wo, rfl⟩ : ∃ wo : World, wo = wr := ⟨_, rfl⟩
              obtain ⟨ns, hnl, rfl, rfl, hnb, hst⟩ := hrel
              have HNB := Bx.mk hnb
              have HST := Bx.mk hst
              have hsum := sum_le ns 256 (fun x hx => (hnb x hx).2)
              have hsum2 : ns.sum ≤ 768 := by
                have : ns.length * 256 ≤ 3 * 256 := Nat.mul_le_mul_right _ (by omega)
                omega
              clear hnb hst hsum
              generalize hkd : ns.length = k at hnl
              have HKD := Bx.mk hkd
              generalize hdd : ns.sum = dd at hsum2
              have HDD := Bx.mk hdd
              clear hkd hdd
              by_cases hkn : k < m
              · obtain ⟨sb, so, rfl, hscl⟩ := HS.out (by omega)
                obtain ⟨x, hx, hcx⟩ := hscl k hkn
                have hcx2 : wo.cell? ⟨sb, so + k, none⟩ = some (.int .u8 x) := by
                  have hl := World.block_lt_of_cell? _ _ hcx
                  rw [World.cell?_of_block (HST.out.kp.block _ hl (by simp)), hcx]
                clear hscl hcx
                go_upto_block 4 with fail
                go_cut [25] from 94 to 109 (fun v wx => ∃ sz : Nat, 1 ≤ sz ∧ sz ≤ 256 ∧ v = .int .i64 sz ∧ wo = wx)
                case first =>
                  clear HST HNB HKD HDD HS HD HRT HBT HM
                  by_cases hkm : k = m - 1
                  · have hkb : ((k : Int) == (m : Int) - 1) = true := by simp; omega
                    clear hkm
                    go_wp2_with fail
                    go_meet
                    case rel => exact ⟨1 + x, by omega, by omega, by first | rfl | (congr 1; omega), rfl⟩
                  · have hkb : ((k : Int) == (m : Int) - 1) = false := by simp; omega
                    clear hkm
                    cases va
                    · go_wp2_with fail
                      go_meet
                      case rel => exact ⟨base, by omega, by omega, rfl, rfl⟩
                    · go_wp2_with fail
                      go_meet
                      case rel => exact ⟨16 + x % 240, by omega, by omega, by first | rfl | (congr 1; omega), rfl⟩
                case rest =>
                  obtain ⟨sz, hsz1, hsz2, rfl, rfl⟩ := hcut
                  have j6 := Lib.cell_of_heap HST.out.inf 6
                  simp only [List.getElem?_toArray, List.getElem?_cons_zero, List.getElem?_cons_succ] at j6
                  clear hcx2
                  go_upto_if 118 with fail
                  go_cut [] from 119 to 121 (fun wx => ∃ num : Nat, num ≤ 768 ∧ wx = wo.alloc (.cells #[.bool va, .int .i64 sz, .int .i64 0, .int .i64 asg, .int .i64 bN, .int .u64 num] 43))
                  case first =>
                    clear HST HNB HKD HDD HS HD HRT HBT HM j6
                    cases va
                    · go_wp2_with fail
                      go_meet
                      case rel => exact ⟨k, by omega, rfl⟩
                    · go_wp2_with fail
                      go_meet
                      case rel => exact ⟨dd, by omega, rfl⟩
                  case rest =>
                    obtain ⟨num, hnum, rfl⟩ := hcut
                    clear j6
                    have j4 := Lib.cell_of_heap HST.out.inf 4
                    have j5 := Lib.cell_of_heap HST.out.inf 5
                    have jl := Lib.lt_of_heap HST.out.inf
                    simp only [List.getElem?_toArray, List.getElem?_cons_zero, List.getElem?_cons_succ] at j4 j5
                    go_upto_if 125 with fail
                    go_cut [] from 126 to 128 (fun wx => ∃ rt : Nat, (rt = 0 ∨ rt = rN) ∧ wx = wo.alloc (.cells #[.bool va, .int .i64 sz, .int .i64 rt, .int .i64 asg, .int .i64 bN, .int .u64 num] 43))
                    case first =>
                      clear HST HNB HKD HDD HS HD HRT HBT HM j5
                      go_wp2_with fail
                      all_goals
                        go_meet
                        case rel =>
                          first
                            | exact ⟨rN, .inr rfl, rfl⟩
                            | exact ⟨0, .inl rfl, rfl⟩
                    case rest =>
                      obtain ⟨rt, hrt, rfl⟩ := hcut
                      clear j4
                      have HRT2 := Bx.mk hrt
                      clear hrt
                      have HC0 : Bx (ChOwn (RawP.top ⟨va, rN, asg, bN⟩) sz (wo.heap.size + 1) 0 (.slice (some ⟨wo.heap.size + 1, 0, none⟩) 0 0) ((wo.alloc (.cells #[.bool va, .int .i64 sz, .int .i64 rt, .int .i64 asg, .int .i64 bN, .int .u64 num] 43)).alloc (.cells #[] 48))) := by
                        have h := World.ownsRow_made (base := wo.heap.size + 1) (e := 48) (size := 1) (wo.alloc (.cells #[.bool va, .int .i64 sz, .int .i64 rt, .int .i64 asg, .int .i64 bN, .int .u64 num] 43)) #[] 0 (by simp) (by decide) rfl
                        rw [World.size_alloc] at h
                        exact ⟨⟨_, _, [], rfl, h, fun d hd => absurd hd (by omega)⟩⟩
                      have HK0 := Bx.mk (Kp.alloc [] (wo.alloc (.cells #[.bool va, .int .i64 sz, .int .i64 rt, .int .i64 asg, .int .i64 bN, .int .u64 num] 43)) (.cells #[] 48))
                      go_wp2_with fail
                      clear j5
                      generalize hW1 : wo.alloc (.cells #[.bool va, .int .i64 sz, .int .i64 rt, .int .i64 asg, .int .i64 bN, .int .u64 num] 43) = W1 at HC0 HK0 ⊢
                      have HHD : Bx (W1.heap[wo.heap.size]? = some (.cells #[.bool va, .int .i64 sz, .int .i64 rt, .int .i64 asg, .int .i64 bN, .int .u64 num] 43 (0, 0))) := ⟨by rw [← hW1]; exact heap_alloc_new _ _⟩
                      have HKW : Bx (Kp [] wo W1) := ⟨by rw [← hW1]; exact Kp.alloc _ _ _⟩
                      have HWS : Bx (W1.heap.size = wo.heap.size + 1) := ⟨by rw [← hW1]; exact World.size_alloc _ _⟩
                      clear hW1
                      go_loopw [27, 132] (fun rv j wx => ∃ c : Nat, c ≤ asg + 1 ∧ j = .int .i64 c ∧ ChOwn (RawP.top ⟨va, rN, asg, bN⟩) sz (wo.heap.size + 1) c rv wx ∧ Kp [] W1 wx) (fun _ j _ => asg + 1 - (intOf j).toNat)
                      case atStart => exact ⟨0, by omega, rfl, HC0.out, HK0.out⟩
                      case round =>
                        clear HC0 HK0
                        obtain ⟨wi, rfl⟩ : ∃ wi : World, wi = wr := ⟨_, rfl⟩
                        obtain ⟨c, hc, rfl, hch, hkp⟩ := hrel
                        have HCH := Bx.mk hch
                        have HKI := Bx.mk hkp
                        clear hch hkp
                        by_cases hcn : c < asg + 1
                        · have HCN := Bx.mk hcn
                          have hcb : ((c : Int) < (asg : Int) + 1) = True := by
                            rw [eq_iff_iff, iff_true]; omega
                          go_upto_block 6 with fail
                          go_cut [27] from 134 to 158 (fun rv wx => ChOwn (RawP.top ⟨va, rN, asg, bN⟩) sz (wo.heap.size + 1) (c + 1) rv wx ∧ Kp [] W1 wx)
                          case first =>
                            have i6 := Lib.cell_of_heap ((HKW.out.trans HKI.out).at HST.out.inf (by simp)) 6
                            simp only [List.getElem?_toArray, List.getElem?_cons_zero, List.getElem?_cons_succ] at i6
                            have HDW := Bx.mk (HD.out.kp (HST.out.kp.trans (HKW.out.trans HKI.out)))
                            have HSW : Bx (wo.heap.size + 1 ≤ wi.heap.size) := ⟨by rw [← HWS.out]; exact HKI.out.size⟩
                            have HWL : Bx (W1.heap.size = wo.heap.size + 1) := ⟨HWS.out⟩
                            clear HST HNB HKD HDD HS HD HRT HM HKW HHD HRT2 HWS
                            obtain ⟨gr, capr, rows, rfl, hown, hcl⟩ := HCH.out
                            have HOW := Bx.mk hown
                            have HCL := Bx.mk hcl
                            clear hown hcl
                            obtain ⟨i48, i48a, i48b, i48c, i48d⟩ := info_parts Tryz.info48
                            go_upto_region 31 with fail
                            have hmc : min (c : Int) (dn : Int) = ((min c dn : Nat) : Int) := by omega
                            have hmd : min c dn ≤ dn := Nat.min_le_right _ _
                            generalize hmce : min c dn = mc at hmc hmd
                            clear hmce
                            have hm1 : (0 : Int) ≤ (mc : Int) := by omega
                            have hm2 : (mc : Int) ≤ (dn : Int) := by omega
                            have hm3' : (mc : Int) ≤ (dc : Int) := by omega
                            have hdm0 := datCut HDW.out hmd hdc
                            generalize hX : (if dc = mc then DA else DA.map (fun a => a.add mc)) = X at hdm0
                            have HDM := Bx.mk hdm0
                            clear HDW hdm0
                            go_region_law (first
                              | ((try go_simp); go_at_call 20; refine (lawSoundI _ sz bN (dn - mc) _ _ _ (by first | exact u8b _ | (constructor <;> omega)) hsz2 HBT.out (by omega) (HDM.out.kp (Kp.drew [] wi))).mono ?_; rintro e wz ⟨xs, hxl, hxb, g, gcap, rfl, hon, hkz⟩; have HXI := Bx.mk (own_ints hon); have HXL := Bx.mk hxl; have HXB := Bx.mk hxb; have HKZ := Bx.mk ((Kp.drew [] wi).trans hkz); rw [hxl]; have HOZ := Bx.mk (ownsRow_kp HOW.out HKZ.out (fun _ _ => by simp)); have HOA := Bx.mk (HOZ.out.alloc (.cells #[.slice (some ⟨g, 0, none⟩) sz gcap] 48)); have HLZ : Bx (wo.heap.size + 1 ≤ (wz.alloc (.cells #[.slice (some ⟨g, 0, none⟩) sz gcap] 48)).heap.size) := ⟨by have h1 := HSW.out; have h2 := HKZ.out.size; simp only [World.size_alloc]; omega⟩; have HCZ := Bx.mk (fun d hd => ChOwn.cellKp (HCL.out d hd) HKZ.out); clear hxl hxb hon hkz)
                              | (refine step_append_lies _ rfl (.tmp 135) (.tmp 157) 47 rfl (wo.heap.size + 1) 48 i48 _ 1 24 Tryz.underlying47 i48a i48b i48c i48d rfl (by decide) (.slice (some ⟨gr, 0, none⟩) c capr) c rows (by simp [Act.eval]) HOA.out ⟨wz.heap.size, 0, none⟩ 1 1 [.slice (some ⟨g, 0, none⟩) sz gcap] (by simp [Act.eval]) rfl (cell_one_new _ _ _) (by simp [Value.oneCell']) (by decide) (by unfold maxLen; omega) (by omega) HLZ.out _ rfl ?_; intro g5 cap5 w5 hown5 hgrow hat hlt; have HPU := Bx.mk (ChOwn.push HOZ.out HCZ.out HXL.out HXB.out HXI.out hgrow hown5); have HK5 := Bx.mk ((HKI.out.trans HKZ.out).new HPU.out.2.1 (by have h1 := HPU.out.2.2; have h2 := HWL.out; simp; omega)); clear hown5 hgrow hat hlt))
                            all_goals
                              go_wp2_with fail
                              (try (change Met _ (Act.put _ (some 27) _) _; simp only [Act.put, List.setIfInBounds_toArray, List.set_cons_succ, List.set_cons_zero]))
                              go_meet
                              case rel => exact ⟨HPU.out.1, HK5.out⟩
                          case rest =>
                            obtain ⟨hch, hkp⟩ := hcut
                            have HCN2 := Bx.mk hch
                            have HKN2 := Bx.mk hkp
                            clear hch hkp
                            go_wp2_with fail
                            go_roundw
                            case rel => exact ⟨c + 1, HCN.out, by go_num, HCN2.out, HKN2.out⟩
                            case measure =>
                              have := HCN.out
                              simp [intOf]; omega
                        · obtain rfl : c = asg + 1 := by omega
                          obtain ⟨ca, cacap, rfl, hct⟩ := HCH.out.at
                          have HCT := Bx.mk hct
                          have HKA := Bx.mk (HKW.out.trans HKI.out)
                          have HS1 : Bx (SRel ⟨va, rN, asg, bN⟩ w I ns u19 u20 u21 wi) := ⟨HST.out.keep HKA.out⟩
                          have HH1 := Bx.mk (HKI.out.at HHD.out (by simp))
                          clear hct HCH
                          go_upto_region 44 with fail
                          obtain ⟨gh, caph, hcells, rfl, hhown, hhc⟩ := HS1.out.heads
                          have HHO := Bx.mk hhown
                          have HHC := Bx.mk hhc
                          clear hhown hhc
                          have e0 := Lib.cell_of_heap HH1.out 0
                          have e1 := Lib.cell_of_heap HH1.out 1
                          have e2 := Lib.cell_of_heap HH1.out 2
                          have e3 := Lib.cell_of_heap HH1.out 3
                          have e4 := Lib.cell_of_heap HH1.out 4
                          have e5 := Lib.cell_of_heap HH1.out 5
                          simp only [List.getElem?_toArray, List.getElem?_cons_zero, List.getElem?_cons_succ] at e0 e1 e2 e3 e4 e5
                          obtain ⟨i43, i43a, i43b, i43c, i43d⟩ := info_parts Tryz.info43
                          obtain ⟨i47, i47a, i47b, i47c, i47d⟩ := info_parts Tryz.info47
                          have hl3 : ns.length ≤ 3 := by have := HKD.out; omega
                          have HOA1 := Bx.mk (HHO.out.alloc (.cells (rawCells ⟨va, rN, asg, bN⟩ sz rt num).toArray 43))
                          have HNB1 := Bx.mk (World.news_of_block (heap_alloc_new wi (.cells (rawCells ⟨va, rN, asg, bN⟩ sz rt num).toArray 43)))
                          have HSZ1 : Bx (w.heap.size ≤ (wi.alloc (.cells (rawCells ⟨va, rN, asg, bN⟩ sz rt num).toArray 43)).heap.size) := by
                            have := HS1.out.kp.size
                            constructor
                            simp only [World.size_alloc]; omega
                          simp only [rawCells] at HOA1 HNB1 HSZ1
                          go_wp2_with (at_builtin; refine wpList_append_lies _ rfl (.tmp 191) (.tmp 193) 38 rfl w.heap.size 43 i43 _ 6 48 Tryz.underlying38 i43a i43b i43c i43d rfl (by decide) (.slice (some ⟨gh, 0, none⟩) ns.length caph) ns.length hcells (by simp [Act.eval]) HOA1.out ⟨wi.heap.size, 0, none⟩ 1 1 (rawCells ⟨va, rN, asg, bN⟩ sz rt num) (by simp [Act.eval]) rfl HNB1.out (by simp [rawCells, Value.oneCell']) (by decide) (by unfold maxLen; omega) (by omega) HSZ1.out _ rfl ?_)
                          intro g3 cap3 w3 hown3 hgrow hat hlt
                          have HPH := Bx.mk (HeadsR.push HHO.out HHC.out hgrow hown3)
                          have HAL := Bx.mk (HS1.out.all.kpT HPH.out.2.1 HPH.out.2.2.2 (by decide))
                          have HCT3 := Bx.mk (HCT.out.kpT HPH.out.2.1 HPH.out.2.2.2 (by decide))
                          clear hown3 hgrow hat hlt e0 e1 e2 e3 e4 e5
                          obtain ⟨ga, capa, arows, rfl, haown, hac⟩ := HAL.out
                          have HAO := Bx.mk haown
                          have HAC := Bx.mk hac
                          clear haown hac
                          have HOA2 := Bx.mk (HAO.out.alloc (.cells #[.slice (some ⟨ca, 0, none⟩) (asg + 1) cacap] 47))
                          have HSZ2 : Bx (w.heap.size ≤ (w3.alloc (.cells #[.slice (some ⟨ca, 0, none⟩) (asg + 1) cacap] 47)).heap.size) := by
                            have h1 := HS1.out.kp.size
                            have h2 := HPH.out.2.1.size
                            constructor
                            simp only [World.size_alloc]; omega
                          go_wp2_with (at_builtin; refine wpList_append_lies _ rfl (.tmp 195) (.tmp 197) 39 rfl w.heap.size 47 i47 _ 1 24 Tryz.underlying39 i47a i47b i47c i47d rfl (by decide) (.slice (some ⟨ga, 0, none⟩) ns.length capa) ns.length arows (by simp [Act.eval]) HOA2.out ⟨w3.heap.size, 0, none⟩ 1 1 [.slice (some ⟨ca, 0, none⟩) (asg + 1) cacap] (by simp [Act.eval]) rfl (cell_one_new _ _ _) (by simp [Value.oneCell']) (by decide) (by unfold maxLen; omega) (by omega) HSZ2.out _ rfl ?_)
                          intro g4 cap4 w4' hown4 hgrow hat hlt
                          have HPA := Bx.mk (AllR.push (r := ⟨va, rN, asg, bN⟩) HAO.out HAC.out HCT3.out hgrow hown4)
                          clear hown4 hgrow hat hlt
                          go_upto_region 45 with fail
                          have hin4 := HPA.out.2.1.at (HPH.out.2.1.at HS1.out.inf (HPH.out.2.2.2.not HS1.out.inf (by decide))) (HPA.out.2.2.2.not (HPH.out.2.1.at HS1.out.inf (HPH.out.2.2.2.not HS1.out.inf (by decide))) (by decide))
                          have hre4 := HPA.out.2.1.at (HPH.out.2.1.at HS1.out.res (HPH.out.2.2.2.not HS1.out.res (by decide))) (HPA.out.2.2.2.not (HPH.out.2.1.at HS1.out.res (HPH.out.2.2.2.not HS1.out.res (by decide))) (by decide))
                          have hkp4 : Kp [] w w4' := (HS1.out.kp.new HPH.out.2.1 (by have := HPH.out.2.2.1; simpa using this)).new HPA.out.2.1 (by have := HPA.out.2.2.1; simpa using this)
                          have hhd4 : w4'.heap[wo.heap.size]? = some (.cells #[.bool va, .int .i64 sz, .int .i64 rt, .int .i64 asg, .int .i64 bN, .int .u64 num] 43 (0, 0)) := by
                            have hlt : gh < wo.heap.size := by
                              obtain ⟨gh', cap', cl', e', h', _⟩ := HST.out.heads
                              cases e'
                              exact (h'.lt gh rfl).2
                            have h3 := HPH.out.2.1.at HH1.out (by simp; omega)
                            exact HPA.out.2.1.at h3 (HPA.out.2.2.2.not h3 (by decide))
                          have HCT4 := Bx.mk (HCT3.out.kpT HPA.out.2.1 HPA.out.2.2.2 (by decide))
                          have HPH4 := Bx.mk (HPH.out.1.kpT HPA.out.2.1 HPA.out.2.2.2 (by decide))
                          obtain ⟨obs, og, ocap, rfl, oown, olen⟩ := HS1.out.out
                          have HOO := Bx.mk (ownsRow_kpT (ownsRow_kpT oown HPH.out.2.1 HPH.out.2.2.2 (by decide)) HPA.out.2.1 HPA.out.2.2.2 (by decide))
                          have HOL := Bx.mk olen
                          have HIN4 := Bx.mk hin4
                          have HRE4 := Bx.mk hre4
                          have HKP4 := Bx.mk hkp4
                          clear oown olen hre4 hkp4
                          have e0 := Lib.cell_of_heap hhd4 0
                          have e1 := Lib.cell_of_heap hhd4 1
                          have e2 := Lib.cell_of_heap hhd4 2
                          have e3 := Lib.cell_of_heap hhd4 3
                          have e4 := Lib.cell_of_heap hhd4 4
                          have e5 := Lib.cell_of_heap hhd4 5
                          have i6 := Lib.cell_of_heap hin4 6
                          simp only [List.getElem?_toArray, List.getElem?_cons_zero, List.getElem?_cons_succ] at e0 e1 e2 e3 e4 e5 i6
                          have hrtok : RateOk (rt : Int) := by
                            rcases HRT2.out with rfl | rfl
                            · exact .inl rfl
                            · exact HRT.out
                          have HRO := Bx.mk hrtok
                          have HTOP := Bx.mk (RawP.Ok.top (r := ⟨va, rN, asg, bN⟩) ⟨HRT.out, hA, HBT.out⟩).2
                          clear hhd4 hin4 hrtok
                          go_wp2_with fail
                          refine (specFrame va _ sz rt asg bN num ca cacap (asg + 1) 0 ⟨w2.heap.size, 0, none⟩ w4' hsz2 hsz1 HRO.out HBT.out (by omega) hA rfl (HCT4.out.at HTOP.out)).mono ?_
                          rintro e w5 ⟨fbs, hfl, hfp, fg, fcap, rfl, fown, fkp⟩
                          have HFO := Bx.mk fown
                          have HFK := Bx.mk fkp
                          have HFN : Bx (∀ (j : Nat) u, (Lib.byteCells fbs)[j]? = some u → w5.cell? ((⟨fg, 0, none⟩ : Addr).add j) = some u) := ⟨fown.cells rfl⟩
                          have HO5 := Bx.mk (ownsRow_kp HOO.out fkp (fun _ _ => by simp))
                          have HSZ5 : Bx (w.heap.size ≤ w5.heap.size) := ⟨Nat.le_trans HKP4.out.size fkp.size⟩
                          clear fown fkp e0 e1 e2 e3 e4 e5 i6
                          obtain ⟨i0, hi, hz0, hz1, hz2⟩ := info_parts Tryz.info5c
                          have hol : obs.length ≤ 300000000 := by
                            have h1 := HOL.out
                            have h2 : ns.length * 100000000 ≤ 3 * 100000000 := Nat.mul_le_mul_right _ hl3
                            omega
                          go_wp2_with (at_builtin; refine wpList_append_lies _ rfl (.tmp 199) (.tmp 209) 23 rfl w.heap.size 5 i0 (.int .u8 0) 1 1 Tryz.underlying23 hi hz0 hz1 hz2 rfl (by decide) (.slice (some ⟨og, 0, none⟩) obs.length ocap) obs.length (Lib.byteCells obs) (by simp [Act.eval]) HO5.out ⟨fg, 0, none⟩ fbs.length fcap (Lib.byteCells fbs) (by simp [Act.eval]) (by rw [byteCells_length]; simp) HFN.out (byteCells_one _) hfp (by unfold maxLen; omega) (by omega) HSZ5.out _ rfl ?_)
                          intro g6 cap6 w6 hown6 hgrow hat hlt
                          have hty : OfTy w5 [og] [5] := by
                            obtain ⟨_, cur, h, _⟩ := ownsRow_at HO5.out
                            exact one_ty h
                          have hk6 : Kp [og] w5 w6 := (growKp HO5.out hgrow).1.mono (by intro j _ hj; simpa [Value.ownBlock] using hj)
                          have hog : w.heap.size ≤ og := (growKp HO5.out hgrow).2.2 og (by simp [Value.ownBlock])
                          have HST6 : Bx (SRel ⟨va, rN, asg, bN⟩ w I (ns ++ [sz]) (.slice (some ⟨g3, 0, none⟩) (ns.length + 1) cap3) (.slice (some ⟨g4, 0, none⟩) (ns.length + 1) cap4) (.slice (some ⟨g6, 0, none⟩) (obs.length + fbs.length) cap6) w6) := by
                            refine ⟨⟨(HPH4.out.kpT HFK.out (OfTy.nil _ [1]) (by decide)).kpT hk6 hty (by decide), (HPA.out.1.kpT HFK.out (OfTy.nil _ [1]) (by decide)).kpT hk6 hty (by decide), ⟨obs ++ fbs, g6, cap6, by rw [List.length_append], ?_, ?_⟩, ?_, ?_, ?_⟩⟩
                            · rw [List.length_append, byteCells_append]; exact hown6
                            · have := HOL.out
                              rw [List.length_append, List.length_append, List.length_singleton, Nat.add_mul]
                              omega
                            · exact hk6.at (HFK.out.at HIN4.out (by simp)) (hty.not (HFK.out.at HIN4.out (by simp)) (by decide))
                            · exact hk6.at (HFK.out.at HRE4.out (by simp)) (hty.not (HFK.out.at HRE4.out (by simp)) (by decide))
                            · exact (HKP4.out.trans HFK.out).new hk6 (by simpa using hog)
                          clear hown6 hgrow hat hlt hty hk6 hog
                          have hkd := HKD.out
                          have hdd := HDD.out
                          go_wp2_with fail
                          go_roundw
                          case rel =>
                            refine ⟨ns ++ [sz], by rw [List.length_append, List.length_singleton]; omega, ?_, ?_, fun y hy => ?_, HST6.out⟩
                            · rw [List.length_append, List.length_singleton, hkd]; rfl
                            · rw [List.sum_append, List.sum_singleton, hdd]; rfl
                            · rcases List.mem_append.1 hy with h | h
                              · exact HNB.out y h
                              · obtain rfl : y = sz := by simpa using h
                                exact ⟨hsz1, hsz2⟩
                          case measure => simp [intOf]; omega
              · obtain rfl : k = m := by omega
                have j0 := Lib.cell_of_heap HST.out.inf 0
                have j1 := Lib.cell_of_heap HST.out.inf 1
                have j7 := Lib.cell_of_heap HST.out.inf 7
                have z0 := Lib.frozen_of_heap HST.out.inf 0
                have z1 := Lib.frozen_of_heap HST.out.inf 1
                have z7 := Lib.frozen_of_heap HST.out.inf 7
                simp only [List.getElem?_toArray, List.getElem?_cons_zero, List.getElem?_cons_succ] at j0 j1 j7
                go_upto_region 49 with fail
                clear j0 j1 j7 z0 z1 z7
                have hin5 : (((wo.setCell ⟨I, 0, none⟩ (.int .i64 16)).setCell ⟨I, 1, none⟩ (.int .i64 4096)).setCell ⟨I, 7, none⟩ (.int .u64 dd)).heap[I]? = some (.cells #[.int .i64 16, .int .i64 4096, .int .i64 0, .int .i64 0, .int .i64 rN, .int .i64 ((asg : Int) + 1), .int .i64 bN, .int .u64 dd, .slice none 0 0] 37 (0, 0)) := by
                  rw [heap_set (heap_set (heap_set HST.out.inf))]
                  simp
                have hk5 : Kp [I] wo (((wo.setCell ⟨I, 0, none⟩ (.int .i64 16)).setCell ⟨I, 1, none⟩ (.int .i64 4096)).setCell ⟨I, 7, none⟩ (.int .u64 dd)) := ((Kp.setCell _ _ _ (by simp)).trans (Kp.setCell _ _ _ (by simp))).trans (Kp.setCell _ _ _ (by simp))
                have hty : OfTy wo [I] [37] := one_ty HST.out.inf
                have HH5 := Bx.mk (HST.out.heads.kpT hk5 hty (by decide))
                have HA5 := Bx.mk (HST.out.all.kpT hk5 hty (by decide))
                have HR5 := Bx.mk (hk5.at HST.out.res (by simp; omega))
                have HK5 := Bx.mk (HST.out.kp.new hk5 (by simp; omega))
                have HO5 : Bx (∃ (bs : List UInt8) (g cap : Nat), u21 = .slice (some ⟨g, 0, none⟩) bs.length cap ∧ (((wo.setCell ⟨I, 0, none⟩ (.int .i64 16)).setCell ⟨I, 1, none⟩ (.int .i64 4096)).setCell ⟨I, 7, none⟩ (.int .u64 dd)).ownsRow w.heap.size 5 1 u21 bs.length (Lib.byteCells bs) ∧ bs.length ≤ ns.length * 100000000) := by
                  obtain ⟨bs, g, cap, e, h1, h2⟩ := HST.out.out
                  exact ⟨bs, g, cap, e, ownsRow_kpT h1 hk5 hty (by decide), h2⟩
                have HI5 := Bx.mk hin5
                clear hin5 hk5 hty HST
                generalize (((wo.setCell ⟨I, 0, none⟩ (.int .i64 16)).setCell ⟨I, 1, none⟩ (.int .i64 4096)).setCell ⟨I, 7, none⟩ (.int .u64 dd)) = w5 at HH5 HA5 HR5 HK5 HO5 HI5 ⊢
                have j0 := Lib.cell_of_heap HI5.out 0
                have j1 := Lib.cell_of_heap HI5.out 1
                have j2 := Lib.cell_of_heap HI5.out 2
                have j3 := Lib.cell_of_heap HI5.out 3
                have j4 := Lib.cell_of_heap HI5.out 4
                have j5 := Lib.cell_of_heap HI5.out 5
                have j6 := Lib.cell_of_heap HI5.out 6
                have j7 := Lib.cell_of_heap HI5.out 7
                have j8 := Lib.cell_of_heap HI5.out 8
                simp only [List.getElem?_toArray, List.getElem?_cons_zero, List.getElem?_cons_succ] at j0 j1 j2 j3 j4 j5 j6 j7 j8
                have HIO : Bx (PInfo.Ok ⟨rN, asg + 1, bN, dd⟩) := by
                  have h1 := HRT.out
                  have h2 := HBT.out
                  unfold RateOk at h1
                  unfold BpsOk at h2
                  exact ⟨⟨by simp only; omega, by simp only; omega, by simp only; omega, by simp only; omega, by simp only; omega, by simp only; omega⟩⟩
                have HSI : Bx (∀ (b : Bool) wz, Calls Tryz.prog 22 #[PInfo.v ⟨rN, asg + 1, bN, dd⟩, .bool b] wz (NewBytes (PInfo.out ⟨rN, asg + 1, bN, dd⟩ b) wz)) := ⟨fun b wz => specInfo _ b wz HIO.out⟩
                unfold PInfo.v at HSI
                simp only [Int.natCast_add, Int.cast_ofNat_Int] at HSI
                go_wp2_with fail
                refine (HSI.out _ _).mono ?_
                rintro e w6 ⟨fg, fcap, rfl, fown, fkp⟩
                have hol : (PInfo.out ⟨rN, asg + 1, bN, dd⟩ (bits .and .u32 ((F : Int) / 33554432) 1 == 0)).length ≤ 1000 ∧ 0 < (PInfo.out ⟨rN, asg + 1, bN, dd⟩ (bits .and .u32 ((F : Int) / 33554432) 1 == 0)).length := by
                  have h1 := wrB_len (sig, []) (PInfo.bitsOf ⟨rN, asg + 1, bN, dd⟩ (bits .and .u32 ((F : Int) / 33554432) 1 == 0))
                  rw [PInfo.bitsOf_length] at h1
                  unfold PInfo.out
                  rw [List.length_append, List.length_replicate]
                  have h2 : sig.length = 4 := rfl
                  simp only [List.length_nil] at h1
                  omega
                generalize PInfo.out ⟨rN, asg + 1, bN, dd⟩ (bits .and .u32 ((F : Int) / 33554432) 1 == 0) = fb at fown hol ⊢
                have HFO := Bx.mk fown
                have HFK := Bx.mk fkp
                obtain ⟨hol1, hol2⟩ := hol
                clear fown fkp j0 j1 j2 j3 j4 j5 j6 j7 j8
                go_upto_if 229 with fail
                have h26 : Int.tmod ((F : Int) / 67108864) 40 = ((F / 67108864 % 40 : Nat) : Int) := by rw [Int.tmod_eq_emod_of_nonneg (by omega)]; omega
                have hq40 := Nat.mod_lt (F / 67108864) (show 0 < 40 by decide)
                go_cut [33] from 229 to 236 (fun v wx => ∃ (fb2 : List UInt8) (g2 cap2 : Nat), v = .slice (some ⟨g2, 0, none⟩) fb2.length cap2 ∧ fb2.length ≤ 2000 ∧ wx.ownsRow w5.heap.size 5 1 v fb2.length (Lib.byteCells fb2) ∧ Kp [] w5 wx)
                case first =>
                  clear HH5 HA5 HR5 HK5 HO5 HI5 HIO HSI HRT HBT HNB HKD HDD HS HD HM
                  cases hb : (bits .and .u32 ((F : Int) / 33554432) 1 == 1)
                  · go_wp2_with fail
                    go_meet
                    case rel => exact ⟨fb, fg, fcap, rfl, by omega, HFO.out, HFK.out⟩
                  · generalize hnz : F / 67108864 % 40 = nz at h26 hq40
                    obtain ⟨i0, hi, hz0, hz1, hz2⟩ := info_parts Tryz.info5c
                    have h26b : (F : Int) / 67108864 % 40 = (nz : Int) := by omega
                    have hsz6 := HFK.out.size
                    go_wp2_with (first | (refine wpList_make_full _ rfl (.tmp 233) (.tmp 233) 23 rfl w5.heap.size 5 i0 (.int .u8 0) 1 Tryz.underlying23 hi hz0 hz1 .u32 .u32 _ _ nz (by simp [Act.eval]; rfl) (by simp [Act.eval]; rfl) (by first | rfl | omega) (by first | rfl | omega) (by rw [hz2]; omega) (by unfold maxLen; omega) hsz6 ?_))
                    intro w7 hown7 hg7
                    have hk7 : Kp [] w6 w7 := Kp.grown hg7 (by intro k hk; cases hk)
                    have hbz : BytesAt w6.heap.size 0 (List.replicate nz 0) w7 := by
                      obtain ⟨_, cur, hg, hx⟩ := ownsRow_at hown7
                      intro i x hx'
                      rw [List.getElem?_replicate] at hx'
                      split at hx'
                      · rename_i hlt
                        cases hx'
                        rw [Lib.cell_of_heap hg, Nat.zero_add]
                        exact hx i _ (by rw [toList_madeCells_one, List.getElem?_replicate, if_pos hlt]; rfl)
                      · cases hx'
                    have HB7 := Bx.mk hbz
                    have HF7 := Bx.mk (ownsRow_kp HFO.out hk7 (fun _ _ => by simp))
                    have HK7 := Bx.mk (HFK.out.trans hk7)
                    clear hown7 hg7 hk7 hbz
                    go_wp2_with fail
                    refine (specBlock _ nz nz (List.replicate nz 0) w7 (by simp) (by omega) HB7.out).mono ?_
                    rintro e w8 ⟨bb, hbl, hbp, bg, bcap, rfl, bown, bkp⟩
                    have HF8 := Bx.mk (ownsRow_kp HF7.out bkp (fun _ _ => by simp))
                    have HBN : Bx (∀ (j : Nat) u, (Lib.byteCells bb)[j]? = some u → w8.cell? ((⟨bg, 0, none⟩ : Addr).add j) = some u) := ⟨bown.cells rfl⟩
                    have HK8 := Bx.mk (HK7.out.trans bkp)
                    have HSZ8 : Bx (w5.heap.size ≤ w8.heap.size) := ⟨HK8.out.size⟩
                    clear bown bkp
                    go_wp2_with (at_builtin; refine wpList_append_lies _ rfl (.tmp 230) (.tmp 235) 23 rfl w5.heap.size 5 i0 (.int .u8 0) 1 1 Tryz.underlying23 hi hz0 hz1 hz2 rfl (by decide) (.slice (some ⟨fg, 0, none⟩) fb.length fcap) fb.length (Lib.byteCells fb) (by simp [Act.eval]) HF8.out ⟨bg, 0, none⟩ bb.length bcap (Lib.byteCells bb) (by simp [Act.eval]) (by rw [byteCells_length]; simp) HBN.out (byteCells_one _) hbp (by unfold maxLen; omega) (by omega) HSZ8.out _ rfl ?_)
                    intro g9 cap9 w9 hown9 hgrow hat hlt
                    have HO9 := Bx.mk hown9
                    have HK9 := Bx.mk (HK8.out.new (growKp HF8.out hgrow).1 (growKp HF8.out hgrow).2.2)
                    clear hown9 hgrow hat hlt
                    go_wp2_with fail
                    go_meet
                    case rel => exact ⟨fb ++ bb, g9, cap9, by rw [List.length_append], by rw [List.length_append]; omega, by rw [List.length_append, byteCells_append]; exact HO9.out, HK9.out⟩
                case rest =>
                  obtain ⟨fb2, g2, cap2, rfl, hfl2, hfo2, hfk2⟩ := hcut
                  obtain ⟨obs, og, ocap, rfl, oown, olen⟩ := HO5.out
                  have hol : obs.length ≤ 300000000 := by
                    have h1 := HKD.out
                    have h2 : ns.length * 100000000 ≤ 3 * 100000000 := Nat.mul_le_mul_right _ (by omega)
                    omega
                  have kd := hfk2.trans (Kp.drew [] wc)
                  have HFD := Bx.mk (ownsRow_kp hfo2 (Kp.drew [] wc) (fun _ _ => by simp))
                  have oo := ownsRow_kp oown kd (fun _ _ => by simp)
                  have HON : Bx (∀ (j : Nat) u, (Lib.byteCells obs)[j]? = some u → wc.drew.cell? ((⟨og, 0, none⟩ : Addr).add j) = some u) := ⟨oo.cells rfl⟩
                  have HIW := Bx.mk (kd.at HI5.out (by simp))
                  have HRW := Bx.mk (kd.at HR5.out (by simp))
                  have HHW := Bx.mk (HH5.out.kpT kd (OfTy.nil _ [1]) (by decide))
                  have HAW := Bx.mk (HA5.out.kpT kd (OfTy.nil _ [1]) (by decide))
                  have HKW := Bx.mk (HK5.out.trans kd)
                  have HSZW : Bx (w5.heap.size ≤ wc.drew.heap.size) := ⟨kd.size⟩
                  have HWW : Bx (w.heap.size < w5.heap.size) := ⟨Lib.lt_of_heap HR5.out⟩
                  have HIW5 : Bx (I < w5.heap.size) := ⟨Lib.lt_of_heap HI5.out⟩
                  have HNB2 := Bx.mk HNB.out
                  clear hfo2 hfk2 oown oo kd olen HH5 HA5 HR5 HK5 HO5 HI5 HFK HIO HSI HS HD HM HNB
                  have j0 := Lib.cell_of_heap HIW.out 0
                  have j1 := Lib.cell_of_heap HIW.out 1
                  have j2 := Lib.cell_of_heap HIW.out 2
                  have j3 := Lib.cell_of_heap HIW.out 3
                  have j4 := Lib.cell_of_heap HIW.out 4
                  have j5 := Lib.cell_of_heap HIW.out 5
                  have j6 := Lib.cell_of_heap HIW.out 6
                  have j7 := Lib.cell_of_heap HIW.out 7
                  have j8 := Lib.cell_of_heap HIW.out 8
                  simp only [List.getElem?_toArray, List.getElem?_cons_zero, List.getElem?_cons_succ] at j0 j1 j2 j3 j4 j5 j6 j7 j8
                  obtain ⟨i0, hi, hz0, hz1, hz2⟩ := info_parts Tryz.info5c
                  go_upto_region 52 with fail
                  go_region_law (first
                    | (refine step_append_any _ rfl (.tmp 240) (.tmp 241) 23 rfl w5.heap.size 5 i0 (.int .u8 0) 1 1 Tryz.underlying23 hi hz0 hz1 hz2 rfl (by decide) (.slice (some ⟨g2, 0, none⟩) fb2.length cap2) fb2.length (Lib.byteCells fb2) (by simp [Act.eval, Act.put]) HFD.out ⟨og, 0, none⟩ obs.length ocap (Lib.byteCells obs) (by simp [Act.eval, Act.put]) (by rw [byteCells_length]; simp) HON.out (byteCells_one _) (by unfold maxLen; omega) (by omega) HSZW.out ?_; intro vF wF hownF hgrowF; have HT := Bx.mk (TailEnd.mk' HFD.out hgrowF HIW.out HRW.out HHW.out HAW.out HKW.out HWW.out HIW5.out); obtain ⟨q0, q1, q2, q3, q4, q5, q6, q7, q8, p0, p1, p2, p3, p4, p5, p6, p7, p8, o0, o1, o2, o3, o4, o5, o6, o7, o8⟩ := HT.out.facts; clear hownF hgrowF))
                  all_goals
                    clear j0 j1 j2 j3 j4 j5 j6 j7 j8 q0 q1 q2 q3 q4 q5 q6 q7 q8
                    go_wp2_with fail
                    have hE : (((((((((wF.setCell ⟨w.heap.size, 0, none⟩ (.int .i64 16)).setCell ⟨w.heap.size, 1, none⟩ (.int .i64 4096)).setCell ⟨w.heap.size, 2, none⟩ (.int .i64 0)).setCell ⟨w.heap.size, 3, none⟩ (.int .i64 0)).setCell ⟨w.heap.size, 4, none⟩ (.int .i64 rN)).setCell ⟨w.heap.size, 5, none⟩ (.int .i64 ((asg : Int) + 1))).setCell ⟨w.heap.size, 6, none⟩ (.int .i64 bN)).setCell ⟨w.heap.size, 7, none⟩ (.int .u64 dd)).setCell ⟨w.heap.size, 8, none⟩ (.slice none 0 0)).heap[w.heap.size]? = some (.cells #[.int .i64 16, .int .i64 4096, .int .i64 0, .int .i64 0, .int .i64 rN, .int .i64 ((asg : Int) + 1), .int .i64 bN, .int .u64 dd, .slice none 0 0] 37 (0, 0)) := by
                      rw [(heap_set (heap_set (heap_set (heap_set (heap_set (heap_set (heap_set (heap_set (heap_set HT.out.res)))))))))]
                      simp
                    have hKE : Kp [w.heap.size] wF (((((((((wF.setCell ⟨w.heap.size, 0, none⟩ (.int .i64 16)).setCell ⟨w.heap.size, 1, none⟩ (.int .i64 4096)).setCell ⟨w.heap.size, 2, none⟩ (.int .i64 0)).setCell ⟨w.heap.size, 3, none⟩ (.int .i64 0)).setCell ⟨w.heap.size, 4, none⟩ (.int .i64 rN)).setCell ⟨w.heap.size, 5, none⟩ (.int .i64 ((asg : Int) + 1))).setCell ⟨w.heap.size, 6, none⟩ (.int .i64 bN)).setCell ⟨w.heap.size, 7, none⟩ (.int .u64 dd)).setCell ⟨w.heap.size, 8, none⟩ (.slice none 0 0)) := (((((((((Kp.setCell wF _ _ (by simp)).trans (Kp.setCell _ _ _ (by simp))).trans (Kp.setCell _ _ _ (by simp))).trans (Kp.setCell _ _ _ (by simp))).trans (Kp.setCell _ _ _ (by simp))).trans (Kp.setCell _ _ _ (by simp))).trans (Kp.setCell _ _ _ (by simp))).trans (Kp.setCell _ _ _ (by simp))).trans (Kp.setCell _ _ _ (by simp)))
                    have hty : OfTy wF [w.heap.size] [37] := one_ty HT.out.res
                    have HHE := Bx.mk (HT.out.heads.kpT hKE hty (by decide))
                    have HAE := Bx.mk (HT.out.all.kpT hKE hty (by decide))
                    have HKE := Bx.mk (HT.out.kp.new hKE (by simp))
                    clear hKE hty HT p0 p1 p2 p3 p4 p5 p6 p7 p8 o0 o1 o2 o3 o4 o5 o6 o7 o8
                    generalize ((((((((wF.setCell ⟨w.heap.size, 0, none⟩ (.int .i64 16)).setCell ⟨w.heap.size, 1, none⟩ (.int .i64 4096)).setCell ⟨w.heap.size, 2, none⟩ (.int .i64 0)).setCell ⟨w.heap.size, 3, none⟩ (.int .i64 0)).setCell ⟨w.heap.size, 4, none⟩ (.int .i64 rN)).setCell ⟨w.heap.size, 5, none⟩ (.int .i64 ((asg : Int) + 1))).setCell ⟨w.heap.size, 6, none⟩ (.int .i64 bN)).setCell ⟨w.heap.size, 7, none⟩ (.int .u64 dd)).setCell ⟨w.heap.size, 8, none⟩ (.slice none 0 0) = wE at hE HHE HAE HKE ⊢
                    have q0 := Lib.cell_of_heap hE 0
                    have q1 := Lib.cell_of_heap hE 1
                    have q2 := Lib.cell_of_heap hE 2
                    have q3 := Lib.cell_of_heap hE 3
                    have q4 := Lib.cell_of_heap hE 4
                    have q5 := Lib.cell_of_heap hE 5
                    have q6 := Lib.cell_of_heap hE 6
                    have q7 := Lib.cell_of_heap hE 7
                    have q8 := Lib.cell_of_heap hE 8
                    simp only [List.getElem?_toArray, List.getElem?_cons_zero, List.getElem?_cons_succ] at q0 q1 q2 q3 q4 q5 q6 q7 q8
                    refine bodyPost_ret (v := .tuple #[.agg #[.int .i64 16, .int .i64 4096, .int .i64 0, .int .i64 0, .int .i64 rN, .int .i64 ((asg : Int) + 1), .int .i64 bN, .int .u64 dd, .slice none 0 0], u19, u20, vF]) (by simp [results, Tryz.results8, go_sem, Act.put, *]) rfl ?_
                    exact ⟨⟨va, rN, asg, bN⟩, ns, dd, u19, u20, vF, ⟨HRT.out, hA, HBT.out⟩, by have := HKD.out; omega, HNB2.out, hsum2, rfl, HHE.out, HAE.out, HKE.out⟩
end Go.Proofs.YtemcpcgcnjahjaaGreatDoor
