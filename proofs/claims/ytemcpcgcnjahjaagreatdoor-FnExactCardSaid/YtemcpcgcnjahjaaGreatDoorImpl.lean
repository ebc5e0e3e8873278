/-
  What stands between plain data and the encoder.
-/
import Derived.Test.YtemcpcgcnjahjaaGreatDoorEncMake
import Derived.Laws.CopyOwn
import Derived.Deep.RegionLaw
import Derived.BigRegion
import Derived.Deep.CutBlock
import Derived.Deep.CutRange
namespace Go.Proofs.YtemcpcgcnjahjaaGreatDoor
open Go.RowKit

/-- copy of nothing, as one step of a region that draws its order. -/
theorem step_copy_none {P : Program} {ops : Array Oper} {o : Oper} {a : Act} {w : World} {K : Act → World → Prop} {Q : Exit → Act → World → Prop} {E : Prop} (hgd : o.guard = none) (d s : Operand) (dT sT : TypeId)
    (ho : o.op = .call { callee := .builtin .copy, args := #[d, s], argTypes := #[dT, sT] }) (elem : TypeId) (hu : P.underlying dT = some (.slice elem)) (hsz : (P.info? elem).map (·.size) = some 1)
    (dp sp : Option Addr) (dLen dCap sLen sCap : Nat) (hd : a.eval d = .slice dp dLen dCap) (hs : a.eval s = .slice sp sLen sCap) (hn : Nat.min sLen dLen = 0)
    (h : K (a.put o.dst (goInt 0)) w) : if Region.wanted o (yielded ops a.tmps) = true then Oper.wp P o a w K Q else E := by
  have hw : Region.wanted o (yielded ops a.tmps) = true := by simp [Region.wanted, hgd]
  rw [if_pos hw]
  have hrun := run_copy_none (P := P) w dT sT o.type elem dp sp dLen dCap sLen sCap hu hsz hn
  unfold Oper.wp
  simp [execOp, ho, resolve, invoke, builtin, hd, hs, hrun, Result.andThen]
  exact h

set_option maxHeartbeats 4000000 in
/-- impl.precision of no coefficients. -/
theorem precNil (w : World) : Calls Tryz.prog 30 #[.slice none 0 0] w fun e w' => e = .returned (.int .u64 1) ∧ w' = w := by
  go_enter Tryz.func30, Tryz.ntmps30
  go_wp2_with fail
  go_loop [3, 8] (fun n j => n = .int .u64 1 ∧ j = .int .i64 0) (fun _ _ => 0)
  case atStart => exact ⟨rfl, rfl⟩
  case round =>
    obtain ⟨rfl, rfl⟩ := hrel
    go_wp2_with fail
    go_ret
    exact ⟨rfl, rfl⟩

/-- STREAMINFO as plain data. -/
def PInfo.v (i : PInfo) : Value := .agg #[.int .i64 16, .int .i64 4096, .int .i64 0, .int .i64 0, .int .i64 i.rate, .int .i64 i.nch, .int .i64 i.bits, .int .u64 i.smp, .slice none 0 0]
/-- What streamInfo comes to. -/
def InfoMade (i : PInfo) (w : World) (e : Ending) (w' : World) : Prop := ∃ IN, e = .returned (.pointer (some ⟨IN, 0, none⟩)) ∧ w.heap.size ≤ IN ∧ w'.heap[IN]? = some (.cells i.cells 122 (0, 0)) ∧ Kp [] w w'

set_option maxRecDepth 100000 in
set_option maxHeartbeats 4000000 in
/-- impl.streamInfo. -/
theorem implInfo (i : PInfo) (w : World) (hi : i.Ok) : Calls Tryz.prog 10 #[i.v] w (InfoMade i w) := by
  have h1 := hi.rate
  have h2 := hi.nch8
  have h3 := hi.bits2
  have h4 := hi.smp
  unfold PInfo.v
  go_enter Tryz.func10, Tryz.ntmps10
  go_wp2_with fail
  go_region_law (refine step_copy_none rfl (.tmp 32) (.tmp 34) 23 23 rfl 5 Tryz.underlying23 Tryz.info5b (some ⟨w.heap.size + 1, 8, none⟩) none 16 16 0 0 (by simp [Act.eval]) (by simp [Act.eval]) rfl ?_)
  all_goals
    go_wp2_with fail
    go_ret
    refine ⟨_, rfl, by simp, ?_, ((Kp.alloc _ _ _).trans (Kp.alloc _ _ _)).trans (Kp.drew _ _)⟩
    have h := heap_alloc_new (w.alloc (.cells #[.int .i64 16, .int .i64 4096, .int .i64 0, .int .i64 0, .int .i64 i.rate, .int .i64 i.nch, .int .i64 i.bits, .int .u64 i.smp, .slice none 0 0] 28)) (.cells i.cells 122)
    rw [World.size_alloc] at h
    exact h

set_option maxRecDepth 100000 in
set_option maxHeartbeats 4000000 in
/-- EnablePredictionAnalysis(false). -/
theorem encEnable {E ST IN b d : Nat} {i : PInfo} {w : World}
    (hE : w.heap[E]? = some (.cells #[.pointer (some ⟨ST, 0, none⟩), .iface 62 (.pointer (some ⟨b, 0, none⟩)), .int .u16 0, .int .u16 0, .int .u32 0, .int .u32 0, .iface 105 (.pointer (some ⟨d, 0, none⟩)), .int .u64 0, .int .u64 0, .bool true] 110 (0, 0)))
    (hS : w.heap[ST]? = some (.cells #[.pointer (some ⟨IN, 0, none⟩), .slice none 0 0, .nilIface] 104 (0, 0))) (hI : w.heap[IN]? = some (.cells i.cells 122 (0, 0))) :
    Calls Tryz.prog 11 #[.pointer (some ⟨E, 0, none⟩), .bool false] w fun e w' => e = .returned (.tuple #[]) ∧ EncAt E ST IN b d i.nch 0 0 0 0 w' ∧ Kp [E] w w' := by
  have c9 := Lib.cell_of_heap hE 9
  have z9 := Lib.frozen_of_heap hE 9
  simp only [List.getElem?_toArray, List.getElem?_cons_zero, List.getElem?_cons_succ] at c9
  have HE := Lib.hid hE; clear hE
  have HS := Lib.hid hS; clear hS
  have HI := Lib.hid hI; clear hI
  go_enter Tryz.func11, Tryz.ntmps11
  go_wp2_with fail
  go_end0
  have ty := one_ty HE.out
  refine ⟨rfl, ⟨heap_set HE.out, heap_set_other HS.out ?_, _, heap_set_other HI.out ?_, rfl⟩, Kp.setCell _ _ _ (by simp)⟩
  · exact ne_of_types HS.out HE.out (by decide)
  · exact ne_of_types HI.out HE.out (by decide)

end Go.Proofs.YtemcpcgcnjahjaaGreatDoor
/-
  A channel of plain data, made one of the package's.
-/
namespace Go.Proofs.YtemcpcgcnjahjaaGreatDoor
open Go.RowKit

/-- Whole numbers as they lie. -/
def IntAt (g : Nat) (xs : List Int) (w : World) : Prop := ∃ sc : Array Value, w.heap[g]? = some (.cells sc 3 (0, 0)) ∧ ∀ (j : Nat) (x : Int), xs[j]? = some x → sc[j]? = some (.int .i64 x)
theorem IntAt.get {g : Nat} {xs : List Int} {w : World} (h : IntAt g xs w) (j : Nat) (hj : j < xs.length) : w.cell? ⟨g, j, none⟩ = some (.int .i64 (xs.getD j 0)) := by
  obtain ⟨sc, hG, hx⟩ := h
  rw [Lib.cell_of_heap hG]
  refine hx j _ ?_
  rw [List.getD_eq_getElem?_getD, List.getElem?_eq_getElem hj]
  rfl
theorem IntAt.kp {g : Nat} {xs : List Int} {w w' : World} {L : List Nat} (h : IntAt g xs w) (k : Kp L w w') (hg : g ∉ L) : IntAt g xs w' := by
  obtain ⟨sc, hG, hx⟩ := h
  exact ⟨sc, k.at hG hg, hx⟩

/-- A channel as plain data: its numbers in block g, its parts' numbers in block P. -/
def PSub.v (s : PSub) (g cap P pcap : Nat) : Value := .agg #[.int .i64 s.kind, .int .i64 s.ord, .int .i64 0, .slice (some ⟨g, 0, none⟩) s.smp.length cap, .slice none 0 0, .int .i64 0, .int .i64 0, .int .i64 s.parts, .slice (some ⟨P, 0, none⟩) s.pars.length pcap]
structure GSub (s : PSub) (g P : Nat) (w : World) : Prop where
  smp : I32At g s.smp w
  pars : IntAt P (s.pars.map Int.ofNat) w

theorem GSub.kp {s : PSub} {g P : Nat} {w w' : World} {L : List Nat} (h : GSub s g P w) (k : Kp L w w') (h1 : g ∉ L) (h2 : P ∉ L) : GSub s g P w' := ⟨h.smp.kp k h1, h.pars.kp k h2⟩

/-- What impl.subframe comes to. -/
def SubMade (s : PSub) (w : World) (e : Ending) (w' : World) : Prop :=
  ∃ a, e = .returned (.pointer (some ⟨a, 0, none⟩)) ∧ w.heap.size ≤ a ∧ SubSome s a w' ∧ Kp [] w w'

theorem Tryz.info135 : (Tryz.prog.info? 135).map (fun i => (i.zero, i.size, i.bytes)) = some (some (.agg #[.int .u64 0, .int .u64 0]), 2, 16) := by kernel_rfl

theorem newRow {w W w1 : World} {o : Obj} {T : TypeId} {g' cap' n k : Nat} {xs : List Value} (hW : w.heap.size < W.heap.size) (hk : Kp [] w W) (h0 : W.heap[w.heap.size]? = some o) (hx : k = w.heap.size + 1) (hown : w1.ownsRow w.heap.size T 1 (.slice (some ⟨g', 0, none⟩) n cap') n xs)
    (hgrow : W.drew.grownBy w1 (Value.slice (some ⟨k, 0, none⟩) 0 0).ownBlock) (hat : (Value.slice (some ⟨k, 0, none⟩) 0 0).ownBlock = some g' ∨ g' = W.heap.size) :
    w1.heap[w.heap.size]? = some o ∧ Kp [] w w1 ∧ w.heap.size < g' ∧ w.heap.size < w1.heap.size ∧ n ≤ cap' ∧ ∃ cur, w1.heap[g']? = some (.cells cur T (0, 0)) ∧ ∀ (j : Nat) u, xs[j]? = some u → cur[j]? = some u := by
  have k1 : Kp [k] W w1 := (Kp.drew _ _).trans (Kp.grown hgrow (by intro i hi; simpa [Value.ownBlock] using hi.symm))
  have hs := k1.size
  refine ⟨k1.at h0 (by simp; omega), hk.new k1 (by simp; omega), ?_, by omega, ?_⟩
  · rcases hat with h | h
    · simp only [Value.ownBlock, Option.some.injEq] at h; omega
    · omega
  · rcases hown.2 with ⟨h, _⟩ | ⟨g2, cap2, cur, h, _, hg, hnc, _, _, htk⟩
    · cases h
    · cases h
      refine ⟨hnc, cur, hg, fun j u hj => ?_⟩
      rw [← htk, List.getElem?_take] at hj
      split at hj
      · simpa using hj
      · cases hj

/-- The parts' numbers as the package's row has them. -/
def parCells (l : List Nat) : List Value := l.flatMap fun (p : Nat) => [Value.int .u64 (p : Int), Value.int .u64 0]
theorem parCells_take (l : List Nat) (k : Nat) (hk : k < l.length) : parCells (l.take k) ++ [.int .u64 (l.getD k 0 : Nat), .int .u64 0] = parCells (l.take (k + 1)) := by
  rw [List.take_succ_eq_append_getElem hk]
  unfold parCells
  rw [List.flatMap_append, List.getD_eq_getElem?_getD, List.getElem?_eq_getElem hk]
  simp
theorem parCells_get (l : List Nat) (j p : Nat) (h : l[j]? = some p) : (parCells l)[2 * j]? = some (.int .u64 (p : Nat)) := by
  induction l generalizing j with
  | nil => simp at h
  | cons q l ih =>
    cases j with
    | zero => simp at h; simp [parCells, h]
    | succ j =>
      rw [show 2 * (j + 1) = (2 * j) + 2 by omega]
      simp at h
      simpa [parCells] using ih j h

/-- The cells of a channel of the package, made. -/
def subCells (s : PSub) (X R g' cap' : Nat) : Array Value := #[.int .u8 s.kind, .int .i64 s.ord, .int .u64 0, .int .u8 0, .int .u64 1, .int .i32 0, .slice (some ⟨X, 0, none⟩) 0 0, .pointer (some ⟨R, 0, none⟩), .slice (some ⟨g', 0, none⟩) s.smp.length cap', .int .i64 s.smp.length]

theorem Kp.ownGrow {wr w1 : World} {v : Value} {n : Nat} {xs : List Value} {T sz B : Nat} {O : Obj} (hown : wr.ownsRow B T sz v n xs) (hg : (wr.alloc O).drew.grownBy w1 v.ownBlock) :
    Kp v.ownBlock.toList wr w1 ∧ OfTy wr v.ownBlock.toList [T] ∧ ∀ i ∈ v.ownBlock.toList, B ≤ i := by
  refine ⟨((Kp.alloc _ _ _).trans (Kp.drew _ _)).trans (Kp.grown hg (by intro k hk; simp [hk])), ?_, ?_⟩
  · intro i hi
    rcases hown.2 with ⟨rfl, _⟩ | ⟨g, cap, cur, rfl, _, hg, _⟩
    · simp [Value.ownBlock] at hi
    · simp only [Value.ownBlock, Option.toList_some, List.mem_singleton] at hi
      subst hi
      exact ⟨_, _, _, hg, by simp⟩
  · intro i hi
    rcases hown.2 with ⟨rfl, _⟩ | ⟨g, cap, cur, rfl, hb, hg, _⟩
    · simp [Value.ownBlock] at hi
    · simp only [Value.ownBlock, Option.toList_some, List.mem_singleton] at hi
      subst hi
      exact hb

theorem partStep {w wr w1 : World} {v : Value} {n a g' X : Nat} {xs : List Value} {O : Obj} {ca cr : Array Value} {sm : List Int} (hown : wr.ownsRow w.heap.size 135 2 v n xs) (h1 : wr.heap[a]? = some (.cells ca 129 (0, 0))) (h2 : wr.heap[X]? = some (.cells cr 133 (0, 0))) (h4 : I32At g' sm wr) (h5 : Kp [] w wr)
    (hg : (wr.alloc O).drew.grownBy w1 v.ownBlock) : w1.heap[a]? = some (.cells ca 129 (0, 0)) ∧ w1.heap[X]? = some (.cells cr 133 (0, 0)) ∧ I32At g' sm w1 ∧ Kp [] w w1 := by
  obtain ⟨k, ty, hb⟩ := Kp.ownGrow hown hg
  obtain ⟨sc, hG, _⟩ := id h4
  exact ⟨k.at h1 (ty.not h1 (by decide)), k.at h2 (ty.not h2 (by decide)), h4.kp k (ty.not hG (by decide)), h5.new k hb⟩

theorem parEnd {w w1 : World} {a X g' g2 cap2 k : Nat} {pt : Int} {ca : Array Value} {v0 : Value} {sm : List Int} {xs news ys : List Value} (ha : a ≠ X + 1) (hwX : w.heap.size ≤ X + 1) (m1 : w1.ownsRow w.heap.size 135 2 (.slice (some ⟨g2, 0, none⟩) (k + 1) cap2) (k + 1) (xs ++ news)) (m2 : w1.heap[a]? = some (.cells ca 129 (0, 0))) (m3 : w1.heap[X + 1]? = some (.cells #[.int .i64 pt, v0] 133 (0, 0)))
    (m4 : I32At g' sm w1) (m5 : Kp [] w w1) (e : xs ++ news = ys) :
    ∃ v', (w1.setCell ⟨X + 1, 1, none⟩ (.slice (some ⟨g2, 0, none⟩) (k + 1) cap2)).heap[a]? = some (.cells ca 129 (0, 0)) ∧ (w1.setCell ⟨X + 1, 1, none⟩ (.slice (some ⟨g2, 0, none⟩) (k + 1) cap2)).heap[X + 1]? = some (.cells #[.int .i64 pt, v'] 133 (0, 0)) ∧
      (w1.setCell ⟨X + 1, 1, none⟩ (.slice (some ⟨g2, 0, none⟩) (k + 1) cap2)).ownsRow w.heap.size 135 2 v' (k + 1) ys ∧ I32At g' sm (w1.setCell ⟨X + 1, 1, none⟩ (.slice (some ⟨g2, 0, none⟩) (k + 1) cap2)) ∧ Kp [] w (w1.setCell ⟨X + 1, 1, none⟩ (.slice (some ⟨g2, 0, none⟩) (k + 1) cap2)) := by
  have ks : Kp [X + 1] w1 (w1.setCell ⟨X + 1, 1, none⟩ (.slice (some ⟨g2, 0, none⟩) (k + 1) cap2)) := Kp.setCell _ _ _ (by simp)
  obtain ⟨sc, hG, _⟩ := id m4
  refine ⟨.slice (some ⟨g2, 0, none⟩) (k + 1) cap2, heap_set_other m2 ha, by rw [heap_set m3]; simp, ?_, m4.kp ks ?_, ?_⟩
  · subst e
    refine ownsRow_kp m1 ks fun g hg hm => ?_
    rcases m1.2 with ⟨h, _⟩ | ⟨g3, cap3, cur, h, _, hgh, _⟩
    · cases h
    · cases h
      simp only [Value.ownBlock, Option.some.injEq] at hg
      subst hg
      exact ne_of_types hgh m3 (by decide) (by simpa using hm)
  · have := ne_of_types hG m3 (by decide)
    simpa using this
  · refine m5.after ks fun i hi hm => ?_
    simp only [List.mem_singleton] at hm
    omega

set_option maxRecDepth 100000 in
set_option maxHeartbeats 8000000 in
/-- impl.subframe. -/
theorem implSub (s : PSub) (g cap P pcap : Nat) (w : World) (h : GSub s g P w) (hok : s.Ok) (hp : 1 ≤ s.pars.length) (hp4 : s.pars.length ≤ 4) (hp14 : ∀ p ∈ s.pars, p ≤ 14) :
    Calls Tryz.prog 12 #[s.v g cap P pcap] w (SubMade s w) := by
  obtain ⟨i0, hi, hz0, hz1, hz2⟩ := info_parts Tryz.info21
  have hs1 := hok.some
  have hs2 := hok.few
  have HK := Lib.hid hok; clear hok
  have HP14 := Lib.hid hp14; clear hp14
  have HG := Lib.hid h; clear h
  generalize hO1 : (Obj.cells #[.int .i64 s.kind, .int .i64 s.ord, .int .i64 0, .slice (some ⟨g, 0, none⟩) s.smp.length cap, .slice none 0 0, .int .i64 0, .int .i64 0, .int .i64 s.parts, .slice (some ⟨P, 0, none⟩) s.pars.length pcap] 52 (0, 0)) = O1
  have HO : Hid (((w.alloc O1).alloc (.cells #[] 21)).ownsRow w.heap.size 21 1 (.slice (some ⟨w.heap.size + 1, 0, none⟩) 0 0) 0 []) := by
    have h := World.ownsRow_made (base := w.heap.size) (e := 21) (size := 1) (w.alloc O1) #[] 0 (by simp) (by decide) rfl
    rw [World.size_alloc] at h
    exact h
  have HN : Hid (∀ (j : Nat) u, (s.smp.map (Value.int .i32))[j]? = some u → ((w.alloc O1).alloc (.cells #[] 21)).cell? ((⟨g, 0, none⟩ : Addr).add j) = some u) := by
    show ∀ (j : Nat) u, _
    intro j u hj
    obtain ⟨sc, hG, hx⟩ := HG.out.smp
    rw [Lib.addr_add, Nat.zero_add, Lib.cell_of_heap (heap_alloc (heap_alloc hG))]
    rw [List.getElem?_map] at hj
    cases hsj : s.smp[j]? with
    | none => rw [hsj] at hj; cases hj
    | some x => rw [hsj] at hj; cases hj; exact hx j x hsj
  have H1 : Hid (∀ u ∈ s.smp.map (Value.int .i32), u.oneCell' = true) := by
    show ∀ u ∈ _, _
    intro u hu
    rw [List.mem_map] at hu
    obtain ⟨x, _, rfl⟩ := hu
    rfl
  have HC0 : Hid (((w.alloc O1).alloc (.cells #[] 21)).heap[w.heap.size]? = some O1) := heap_alloc (heap_alloc_new _ _)
  have HKp : Hid (Kp [] w ((w.alloc O1).alloc (.cells #[] 21))) := (Kp.alloc _ _ _).trans (Kp.alloc _ _ _)
  have HSZ : Hid (w.heap.size < ((w.alloc O1).alloc (.cells #[] 21)).heap.size) := by
    show _ < _
    simp only [World.size_alloc]; omega
  subst hO1
  unfold PSub.v
  go_enter Tryz.func12, Tryz.ntmps12
  go_upto_region 1 with fail
  go_cut [3] (fun u wx => ∃ a g' cap', u = .pointer (some ⟨a, 0, none⟩) ∧ w.heap.size < a ∧ w.heap.size < g' ∧ wx.heap[w.heap.size]? = some (.cells #[.int .i64 s.kind, .int .i64 s.ord, .int .i64 0, .slice (some ⟨g, 0, none⟩) s.smp.length cap, .slice none 0 0, .int .i64 0, .int .i64 0, .int .i64 s.parts, .slice (some ⟨P, 0, none⟩) s.pars.length pcap] 52 (0, 0)) ∧
    wx.heap[a]? = some (.cells #[.int .u8 0, .int .i64 0, .int .u64 0, .int .u8 0, .int .u64 0, .int .i32 0, .slice none 0 0, .pointer none, .slice (some ⟨g', 0, none⟩) s.smp.length cap', .int .i64 s.smp.length] 129 (0, 0)) ∧ I32At g' s.smp wx ∧ s.smp.length ≤ cap' ∧ Kp [] w wx)
  case first =>
    go_region_law (refine step_append_lies _ rfl (.tmp 6) (.tmp 8) 50 rfl w.heap.size 21 i0 (.int .i32 0) 1 4 Tryz.underlying50 hi hz0 hz1 hz2 rfl (by decide) (.slice (some ⟨w.heap.size + 1, 0, none⟩) 0 0) 0 [] (by simp [Act.eval, Act.put]) HO.out ⟨g, 0, none⟩ s.smp.length cap (s.smp.map (Value.int .i32)) (by simp [Act.eval, Act.put]) (by simp) HN.out H1.out (by omega) (by simp [maxLen]; omega) (by omega) HKp.out.size _ rfl ?_; intro g' cap' w1 hown hgrow hat hlt; have hm := newRow HSZ.out HKp.out HC0.out rfl hown hgrow hat; have hc3 := Lib.cell_of_heap hm.1 3; simp only [List.getElem?_toArray, List.getElem?_cons_zero, List.getElem?_cons_succ] at hc3; have HM := Lib.hid hm; clear hm hown hgrow hat hlt)
    all_goals
      go_wp2_with fail
      go_meet
      case rel =>
        obtain ⟨m1, m2, m3, m4, m5, cur, m6, m7⟩ := HM.out
        refine ⟨w1.heap.size, g', cap', rfl, m4, m3, heap_alloc m1, heap_alloc_new _ _, ⟨cur, heap_alloc m6, fun j x hx => m7 j _ ?_⟩, by omega, m2.trans (Kp.alloc _ _ _)⟩
        simp [hx]
  case rest =>
    obtain ⟨a, g', cap', rfl, ha, hg', hS0, hA, hsm, hle, hkp⟩ := hcut
    clear HO HN HC0 HKp HSZ H1 hi hz0 hz1 hz2
    have c0 := Lib.cell_of_heap hS0 0
    have c1 := Lib.cell_of_heap hS0 1
    have c2 := Lib.cell_of_heap hS0 2
    have c6 := Lib.cell_of_heap hS0 6
    have c4 := Lib.cell_of_heap hS0 4
    have a0 := Lib.cell_of_heap hA 0
    have a1 := Lib.cell_of_heap hA 1
    have a2 := Lib.cell_of_heap hA 2
    have a3 := Lib.cell_of_heap hA 3
    have a4 := Lib.cell_of_heap hA 4
    have z0 := Lib.frozen_of_heap hA 0
    have z1 := Lib.frozen_of_heap hA 1
    have z2 := Lib.frozen_of_heap hA 2
    have z3 := Lib.frozen_of_heap hA 3
    have z4 := Lib.frozen_of_heap hA 4
    simp only [List.getElem?_toArray, List.getElem?_cons_zero, List.getElem?_cons_succ] at c0 c1 c2 c4 c6 a0 a1 a2 a3 a4
    have hne1 : w.heap.size ≠ a := by omega
    have hne2 : a ≠ w.heap.size := by omega
    have hkk := HK.out.kind
    have hoo := HK.out.ord
    have HS0 := Lib.hid hS0
    have HA := Lib.hid hA
    have HSM := Lib.hid hsm
    have HKP := Lib.hid hkp
    clear hS0 hA hsm hkp
    go_wp2_with fail
    refine (precNil _).mono ?_
    rintro e w4 ⟨rfl, hw4⟩
    have hA4 : w4.heap[a]? = some (.cells #[.int .u8 s.kind, .int .i64 s.ord, .int .u64 0, .int .u8 0, .int .u64 0, .int .i32 0, .slice none 0 0, .pointer none, .slice (some ⟨g', 0, none⟩) s.smp.length cap', .int .i64 s.smp.length] 129 (0, 0)) := by
      rw [hw4, heap_set (heap_set (heap_set (heap_set HA.out)))]
      simp
    have hK4 : Kp [a] wc w4 := by
      rw [hw4]
      exact (((Kp.setCell _ _ _ (by simp)).trans (Kp.setCell _ _ _ (by simp))).trans (Kp.setCell _ _ _ (by simp))).trans (Kp.setCell _ _ _ (by simp))
    have hS4 := hK4.at HS0.out (by simpa using hne1)
    have HA4 := Lib.hid hA4
    have HS4 := Lib.hid hS4
    have HK4 := Lib.hid hK4
    clear hw4 hA4 hS4 hK4 c0 c1 c2 c4 c6 a0 a1 a2 a3 a4 z0 z1 z2 z3 z4
    have c4 := Lib.cell_of_heap HS4.out 4
    have c5 := Lib.cell_of_heap HS4.out 5
    have c7 := Lib.cell_of_heap HS4.out 7
    have c8 := Lib.cell_of_heap HS4.out 8
    have a4 := Lib.cell_of_heap HA4.out 4
    have a5 := Lib.cell_of_heap HA4.out 5
    have a6 := Lib.cell_of_heap HA4.out 6
    have a7 := Lib.cell_of_heap HA4.out 7
    have z4 := Lib.frozen_of_heap HA4.out 4
    have z5 := Lib.frozen_of_heap HA4.out 5
    have z6 := Lib.frozen_of_heap HA4.out 6
    have z7 := Lib.frozen_of_heap HA4.out 7
    have l1 := Lib.lt_of_heap HA4.out
    have l2 := Lib.lt_of_heap HS4.out
    simp only [List.getElem?_toArray, List.getElem?_cons_zero, List.getElem?_cons_succ] at c4 c5 c7 c8 a4 a5 a6 a7
    go_upto_region 10 with fail
    clear c4 c5 c7 c8 a4 a5 a6 a7 z4 z5 z6 z7
    have hAL : ((((((w4.setCell ⟨a, 4, none⟩ (.int .u64 1)).setCell ⟨a, 5, none⟩ (.int .i32 0)).setCell ⟨a, 6, none⟩ (.slice (some ⟨w4.heap.size, 0, none⟩) 0 0)).setCell ⟨a, 7, none⟩ (.pointer (some ⟨w4.heap.size + 1, 0, none⟩))).alloc (Obj.cells #[] 21)).alloc (Obj.cells #[.int .i64 s.parts, .slice none 0 0] 133)).heap[a]? = some (.cells (subCells s w4.heap.size (w4.heap.size + 1) g' cap') 129 (0, 0)) := by
      rw [heap_alloc (heap_alloc (heap_set (heap_set (heap_set (heap_set HA4.out)))))]
      simp [subCells]
    have hRL := heap_alloc_new ((((((w4.setCell ⟨a, 4, none⟩ (.int .u64 1)).setCell ⟨a, 5, none⟩ (.int .i32 0)).setCell ⟨a, 6, none⟩ (.slice (some ⟨w4.heap.size, 0, none⟩) 0 0)).setCell ⟨a, 7, none⟩ (.pointer (some ⟨w4.heap.size + 1, 0, none⟩))).alloc (Obj.cells #[] 21))) (Obj.cells #[.int .i64 s.parts, .slice none 0 0] 133)
    simp only [World.size_alloc, World.size_setCell] at hRL
    have hKL : Kp [a] w4 ((((((w4.setCell ⟨a, 4, none⟩ (.int .u64 1)).setCell ⟨a, 5, none⟩ (.int .i32 0)).setCell ⟨a, 6, none⟩ (.slice (some ⟨w4.heap.size, 0, none⟩) 0 0)).setCell ⟨a, 7, none⟩ (.pointer (some ⟨w4.heap.size + 1, 0, none⟩))).alloc (Obj.cells #[] 21)).alloc (Obj.cells #[.int .i64 s.parts, .slice none 0 0] 133)) :=
      (((((Kp.setCell _ _ _ (by simp)).trans (Kp.setCell _ _ _ (by simp))).trans (Kp.setCell _ _ _ (by simp))).trans (Kp.setCell _ _ _ (by simp))).trans (Kp.alloc _ _ _)).trans (Kp.alloc _ _ _)
    generalize ((((((w4.setCell ⟨a, 4, none⟩ (.int .u64 1)).setCell ⟨a, 5, none⟩ (.int .i32 0)).setCell ⟨a, 6, none⟩ (.slice (some ⟨w4.heap.size, 0, none⟩) 0 0)).setCell ⟨a, 7, none⟩ (.pointer (some ⟨w4.heap.size + 1, 0, none⟩))).alloc (Obj.cells #[] 21)).alloc (Obj.cells #[.int .i64 s.parts, .slice none 0 0] 133)) = w5 at hAL hRL hKL ⊢
    have hgw : g' < w4.heap.size ∧ a < w4.heap.size := by
      obtain ⟨sc, hG, _⟩ := HSM.out
      have := Lib.lt_of_heap hG
      have := HK4.out.size
      exact ⟨by omega, l1⟩
    have hga : g' ≠ a := by
      obtain ⟨sc, hG, _⟩ := HSM.out
      exact ne_of_types hG HA.out (by decide)
    have hK5 : Kp [a] wc w5 := HK4.out.trans hKL
    have HI5 := Lib.hid (HSM.out.kp hK5 (by simpa using hga))
    have HK5 : Hid (Kp [] w w5) := HKP.out.new hK5 (by simp; omega)
    have HA5 := Lib.hid hAL
    have HR5 := Lib.hid hRL
    have HGP : Hid (IntAt P (s.pars.map Int.ofNat) w) := HG.out.pars
    have hS5 := hKL.at HS4.out (by simpa using hne1)
    have c8 := Lib.cell_of_heap hS5 8
    simp only [List.getElem?_toArray, List.getElem?_cons_zero, List.getElem?_cons_succ] at c8
    generalize hX : w4.heap.size = X at HA5 HR5 hgw
    have hwx : w.heap.size < X := by omega
    clear hAL hRL hKL hK5 HS4 HA4 HK4 HSM HKP HA HS0 l1 l2 hX w4 hS5 hkk hoo HK HG
    go_cut [74, 75, 76] from 15 (fun x y z wx => x = .slice (some ⟨P, 0, none⟩) s.pars.length pcap ∧ y = .int .i64 s.pars.length ∧ z = .int .i64 0 ∧ w5 = wx)
    case first =>
      go_wp2_with fail
      go_meet
      case rel => exact ⟨rfl, rfl, rfl, rfl⟩
    obtain ⟨rfl, rfl, rfl, rfl⟩ := hcut
    clear c8
    go_wp2_with fail
    go_loopw [76] (fun j wx => ∃ k vk, k ≤ s.pars.length ∧ j = .int .i64 (k : Nat) ∧ wx.heap[a]? = some (.cells (subCells s X (X + 1) g' cap') 129 (0, 0)) ∧ wx.heap[X + 1]? = some (.cells #[.int .i64 s.parts, vk] 133 (0, 0)) ∧ wx.ownsRow w.heap.size 135 2 vk k (parCells (s.pars.take k)) ∧ I32At g' s.smp wx ∧ Kp [] w wx) (fun j _ => s.pars.length - (intOf j).toNat)
    case atStart => exact ⟨0, .slice none 0 0, by omega, rfl, HA5.out, HR5.out, by simpa [parCells] using World.ownsRow_nil w5 w.heap.size 135 2, HI5.out, HK5.out⟩
    case round =>
      obtain ⟨k, vk, hk, rfl, h1, h2, h3, h4, h5⟩ := hrel
      have A1 := Lib.hid h1
      have A2 := Lib.hid h2
      have A3 := Lib.hid h3
      have A4 := Lib.hid h4
      have A5 := Lib.hid h5
      clear HI5 HK5 HA5 HR5 h3 h4 h5
      by_cases hkn : k < s.pars.length
      · obtain ⟨i1, hj, hy0, hy1, hy2⟩ := info_parts Tryz.info135
        have hcell := (HGP.out.kp A5.out (by simp)).get k (by simpa using hkn)
        have hpe : (s.pars.map Int.ofNat).getD k 0 = ((s.pars.getD k 0 : Nat) : Int) := by
          simp [List.getD_eq_getElem?_getD, hkn]
        rw [hpe] at hcell
        have hple : s.pars.getD k 0 ≤ 14 := by
          rw [List.getD_eq_getElem?_getD, List.getElem?_eq_getElem hkn]
          exact HP14.out _ (List.getElem_mem hkn)
        have HPT := Lib.hid (parCells_take s.pars k hkn)
        clear hpe
        generalize s.pars.getD k 0 = p at hcell hple HPT
        have a7 := Lib.cell_of_heap A1.out 7
        have b1 := Lib.cell_of_heap A2.out 1
        have y1 := Lib.frozen_of_heap A2.out 1
        simp only [subCells, List.getElem?_toArray, List.getElem?_cons_zero, List.getElem?_cons_succ] at a7 b1
        have AO := Lib.hid (A3.out.alloc (.cells #[.int .u64 p, .int .u64 0] 135))
        have hn0 : (wr.alloc (.cells #[.int .u64 p, .int .u64 0] 135)).heap[wr.heap.size]? = some (.cells #[.int .u64 p, .int .u64 0] 135) := heap_alloc_new _ _
        have AN := Lib.hid (World.news_of_block hn0)
        clear hn0 h1 h2
        have AS : Hid (w.heap.size ≤ (wr.alloc (.cells #[.int .u64 p, .int .u64 0] 135)).heap.size) := by
          have := A5.out.size
          show _ ≤ _
          simp only [World.size_alloc]; omega
        have l1 := Lib.lt_of_heap A2.out
        have l2 := Lib.lt_of_heap A1.out
        have hwp : IntKind.u64.wrap (p : Int) = p := by rw [IntKind.wrap_u64]; omega
        go_upto_block 1 with fail
        go_cut [] from 77 to 101 (fun wx => ∃ v', wx.heap[a]? = some (.cells (subCells s X (X + 1) g' cap') 129 (0, 0)) ∧ wx.heap[X + 1]? = some (.cells #[.int .i64 s.parts, v'] 133 (0, 0)) ∧ wx.ownsRow w.heap.size 135 2 v' (k + 1) (parCells (s.pars.take (k + 1))) ∧ I32At g' s.smp wx ∧ Kp [] w wx)
        case first =>
          go_wp2_with fail
          go_region_law (refine step_append_lies _ rfl (.tmp 92) (.tmp 97) 131 rfl w.heap.size 135 i1 (.agg #[.int .u64 0, .int .u64 0]) 2 16 Tryz.underlying131 hj hy0 hy1 hy2 rfl (by decide) vk k (parCells (s.pars.take k)) (by simp [Act.eval, Act.put]) AO.out ⟨wr.heap.size, 0, none⟩ 1 1 [.int .u64 p, .int .u64 0] (by simp [Act.eval, Act.put]) rfl AN.out (by simp [Value.oneCell']) (by omega) (by simp [maxLen]; omega) (by omega) AS.out _ rfl ?_; intro g2 cap2 w1 hown hgrow hat hlt; have hm := partStep A3.out A1.out A2.out A4.out A5.out hgrow; have a7 := Lib.cell_of_heap hm.1 7; have b1 := Lib.cell_of_heap hm.2.1 1; have y1 := Lib.frozen_of_heap hm.2.1 1; simp only [subCells, List.getElem?_toArray, List.getElem?_cons_zero, List.getElem?_cons_succ] at a7 b1; have HM := Lib.hid (And.intro hown hm); clear hm hown hgrow hat hlt)
          all_goals
            go_wp2_with fail
            go_meet
            case rel =>
              obtain ⟨m1, m2, m3, m4, m5⟩ := HM.out
              exact parEnd (by omega) (by omega) m1 m2 m3 m4 m5 HPT.out
        case rest =>
          obtain ⟨v', q1, q2, q3, q4, q5⟩ := hcut
          have Q := Lib.hid (And.intro q1 (And.intro q2 (And.intro q3 (And.intro q4 q5))))
          clear q1 q2 q3 q4 q5 a7 b1 y1
          go_wp2_with fail
          go_roundw
          case rel => exact ⟨k + 1, v', by omega, by go_num, Q.out⟩
          case measure => simp [intOf]; omega
      · obtain rfl : k = s.pars.length := by omega
        go_wp2_with fail
        go_ret
        obtain ⟨g2, cap2, rfl, hg2, _⟩ := A3.out.form (by omega)
        rcases A3.out.2 with ⟨h, _⟩ | ⟨g3, cap3, cur, h, _, hgh, hnc, _, _, htk⟩
        · cases h
        · cases h
          rw [List.take_length] at htk
          refine ⟨a, rfl, by omega, ⟨X + 1, g2, g', cap', cap2, .int .u64 1, .int .i32 0, .slice (some ⟨X, 0, none⟩) 0 0, A1.out, A2.out, ⟨cur, hgh, fun j p hjp => ?_⟩, A4.out, hle⟩, A5.out⟩
          have h6 := parCells_get _ _ _ hjp
          rw [← htk, List.getElem?_take] at h6
          split at h6
          · simpa using h6
          · cases h6
end Go.Proofs.YtemcpcgcnjahjaaGreatDoor
