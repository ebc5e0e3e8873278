/-
  Pieces of the sum: bytes as a number, a turn.
-/
import Derived.Test.YtemcpcgcnjahjaaGreatDoorParts
import Derived.Shelf.Abstract
import Derived.Laws.CopyRow
import Derived.Lib.SlBuf
namespace Go.Proofs.YtemcpcgcnjahjaaGreatDoor
open Go.RowKit

def Some32 (w : World) (e : Ending) (w' : World) : Prop := ∃ x : Int, e = .returned (.int .u32 x) ∧ Kp [] w w'

set_option maxRecDepth 100000 in
set_option maxHeartbeats 4000000 in
/-- math/bits.RotateLeft32. -/
theorem rotate (x k : Int) (h0 : 0 ≤ k) (h1 : k < 32) (w : World) : Calls Tryz.prog 175 #[.int .u32 x, .int .i64 k] w fun e w' => (∃ y : Int, e = .returned (.int .u32 y)) ∧ w' = w := by
  have hk : bits .and .u64 k 31 = k := by
    obtain ⟨m, rfl⟩ := Int.eq_ofNat_of_zero_le h0
    have := u64_and_nat m 31 (by omega) (by omega)
    rw [nat_mask5, Nat.mod_eq_of_lt (by omega)] at this
    exact_mod_cast this
  go_enter Tryz.func175, Tryz.ntmps175
  go_wp2_with fail
  go_ret
  exact ⟨⟨_, rfl⟩, rfl⟩

set_option maxRecDepth 100000 in
set_option maxHeartbeats 4000000 in
/-- leUint32. -/
theorem le32 (g o n cap : Nat) (w : World) (hn : 4 ≤ n) (hb : ∀ i, i < 4 → ∃ x : Int, w.cell? ⟨g, o + i, none⟩ = some (.int .u8 x)) : Calls Tryz.prog 174 #[.slice (some ⟨g, o, none⟩) n cap] w (Some32 w) := by
  obtain ⟨x0, c0⟩ := hb 0 (by omega)
  obtain ⟨x1, c1⟩ := hb 1 (by omega)
  obtain ⟨x2, c2⟩ := hb 2 (by omega)
  obtain ⟨x3, c3⟩ := hb 3 (by omega)
  rw [Nat.add_zero] at c0
  go_enter Tryz.func174, Tryz.ntmps174
  go_wp2_with fail
  go_quiet (fail)
  go_wp2_with fail
  go_ret
  exact ⟨_, rfl, Kp.drewN _ _ _⟩
end Go.Proofs.YtemcpcgcnjahjaaGreatDoor
/-
  Operations on numbers of 32 bits, walked by a check of their text: none of them halts, and nothing but slots turns.
-/
namespace Go.Proofs.YtemcpcgcnjahjaaGreatDoor
open Go.RowKit

def okX (kn : List Nat) : Operand → Bool
  | .tmp s => kn.contains s
  | .const (.int .u32 _) => true
  | _ => false
def okBin : BinOp → Bool
  | .add | .xor | .and | .or => true
  | _ => false
def okArgs (kn : List Nat) : List Operand → Bool
  | [x, .const (.int .i64 k)] => okX kn x && decide (0 ≤ k) && decide (k < 32)
  | _ => false
def okOp (kn : List Nat) : Op → Bool
  | .move x => okX kn x
  | .assign x => okX kn x
  | .binOp op 22 x y _ => okBin op && okX kn x && okX kn y
  | .unOp .xor _ x => okX kn x
  | .call c => (match c.callee with | .value (.func 175) => true | _ => false) && okArgs kn c.args.toList
  | _ => false

/-- These slots hold numbers of 32 bits. -/
def Kn (N : Nat) (kn : List Nat) (a : Act) : Prop := a.tmps.size = N ∧ ∀ s ∈ kn, ∃ x : Int, a.tmps.getD s undef = .int .u32 x

theorem okX_eval {N : Nat} {kn : List Nat} {a : Act} {x : Operand} (h : Kn N kn a) (hx : okX kn x = true) : ∃ n : Int, a.eval x = .int .u32 n := by
  unfold okX at hx
  split at hx
  · exact h.2 _ (by simpa using hx)
  · exact ⟨_, rfl⟩
  · cases hx

set_option maxRecDepth 100000 in
set_option maxHeartbeats 1000000 in
theorem okOp_wp {N : Nat} {kn : List Nat} {a : Act} {w : World} {o : Oper} (h : Kn N kn a) (hop : okOp kn o.op = true) (next : Act → World → Prop) (Q : Exit → Act → World → Prop) (hn : ∀ x : Int, next (a.put o.dst (.int .u32 x)) w) : o.wp Tryz.prog a w next Q := by
  obtain ⟨dst, op, ty, pos, aft, gd⟩ := o
  dsimp only at hop hn
  unfold okOp at hop
  unfold Oper.wp execOp
  dsimp only
  split at hop
  · obtain ⟨n, hx⟩ := okX_eval h hop
    dsimp only
    rw [hx]; exact hn n
  · obtain ⟨n, hx⟩ := okX_eval h hop
    dsimp only
    rw [hx]; exact hn n
  · rename_i op x y _
    simp only [Bool.and_eq_true] at hop
    obtain ⟨n, hx⟩ := okX_eval h hop.1.2
    obtain ⟨m, hy⟩ := okX_eval h hop.2
    dsimp only
    rw [hx, hy]
    have hb := hop.1.1
    cases op <;> first | (exact absurd hb (by decide)) | exact hn _
  · obtain ⟨n, hx⟩ := okX_eval h hop
    dsimp only
    rw [hx]; exact hn _
  · rename_i c
    obtain ⟨cal, args, ats⟩ := c
    simp only [Bool.and_eq_true] at hop
    obtain ⟨h1, h2⟩ := hop
    split at h1
    · unfold okArgs at h2
      split at h2
      · rename_i x k hargs
        simp only [Bool.and_eq_true, decide_eq_true_eq] at h2
        obtain ⟨n, hx⟩ := okX_eval h h2.1.1
        have ha : args = #[x, .const (.int .i64 k)] := by
          rw [← Array.toArray_toList (xs := args)]
          exact congrArg List.toArray hargs
        subst ha
        have hr : (do let d ← resolve a.eval { callee := .value (.func 175), args := #[x, .const (.int .i64 k)], argTypes := ats } ty; invoke d.target d.args : Sem Next).run Tryz.prog w = .ok (.enter 175 #[.int .u32 n, .int .i64 k]) w := by
          have e1 : (resolve a.eval { callee := .value (.func 175), args := #[x, .const (.int .i64 k)], argTypes := ats } ty).run Tryz.prog w = .ok { target := .fn (.func 175) #[], args := #[.int .u32 n, .int .i64 k] } w := by
            have e2 : a.eval (.const (.int .i64 k)) = .int .i64 k := rfl
            have e3 : a.eval (.func 175) = .func (.func 175) #[] #[] := rfl
            simp [resolve, Deferred.ofValue, hx, e2, e3]
          rw [Sem.run_bind, e1]
          exact Go.Proofs.enters_of Tryz.func175 (by kernel_rfl) rfl _ _
        dsimp only
        rw [hr]
        refine (rotate n k h2.1.2 h2.2 w).mono ?_
        rintro e w' ⟨⟨y, rfl⟩, rfl⟩
        exact hn y
      · cases h2
    · cases h1
  · cases hop

/-- The check of an operation with its slot; of operations one after the other; of code. -/
def okDst (N : Nat) : Option Tmp → Bool
  | some d => decide (d < N) && decide (4 ≤ d) && !(d == 8) && !(d == 9)
  | none => false
def okOps (N : Nat) : List Nat → List Oper → Option (List Nat)
  | kn, [] => some kn
  | kn, o :: r => if o.guard.isNone && okDst N o.dst && okOp kn o.op then okOps N (o.dst.getD 0 :: kn) r else none
def okCode (N : Nat) : List Nat → Code → Option (List Nat)
  | kn, .region _ ops false => okOps N kn ops.toList
  | kn, .seq x y => match okCode N kn x with | some kn' => okCode N kn' y | none => none
  | _, _ => none
def checks (N : Nat) (kn need : List Nat) (c : Code) : Bool := match okCode N kn c with | some kn' => need.all kn'.contains | none => false

/-- Slots that are none of the numbers stand. -/
def Same (a a' : Act) : Prop := a'.defers = a.defers ∧ ∀ s, s < 4 ∨ s = 8 ∨ s = 9 → a'.tmps.getD s undef = a.tmps.getD s undef
theorem Same.refl (a : Act) : Same a a := ⟨rfl, fun _ _ => rfl⟩
theorem Same.trans {a b c : Act} (h : Same a b) (k : Same b c) : Same a c := ⟨k.1.trans h.1, fun s hs => (k.2 s hs).trans (h.2 s hs)⟩

theorem put_kn {N : Nat} {kn : List Nat} {a : Act} {d : Nat} (h : Kn N kn a) (hd : d < N) (x : Int) : Kn N (d :: kn) (a.put (some d) (.int .u32 x)) := by
  refine ⟨by simp [Act.put, h.1], fun s hs => ?_⟩
  simp only [Act.put, Array.getD_eq_getD_getElem?]
  by_cases e : d = s
  · subst e
    rw [Array.getElem?_setIfInBounds_self_of_lt (by rw [h.1]; exact hd)]
    exact ⟨x, rfl⟩
  · rw [Array.getElem?_setIfInBounds_ne e, ← Array.getD_eq_getD_getElem?]
    rcases List.mem_cons.1 hs with rfl | hs
    · exact absurd rfl e
    · exact h.2 s hs

theorem put_same (a : Act) (d : Nat) (h4 : 4 ≤ d) (h8 : ¬ d = 8) (h9 : ¬ d = 9) (v : Value) : Same a (a.put (some d) v) := by
  refine ⟨rfl, fun s hs => ?_⟩
  simp only [Act.put, Array.getD_eq_getD_getElem?]
  rw [Array.getElem?_setIfInBounds_ne (by omega)]

theorem okOps_wp {N : Nat} {w : World} {ops : Array Oper} {Q : Exit → Act → World → Prop} : ∀ (l : List Oper) (kn kn' : List Nat) (a : Act), okOps N kn l = some kn' → Kn N kn a → (∀ a', Kn N kn' a' → Same a a' → Q .normal a' w) → wpList Tryz.prog ops Q l a w
  | [], kn, kn', a, h, hk, hq => by
    simp only [okOps, Option.some.injEq] at h
    subst h
    exact hq a hk (Same.refl a)
  | o :: r, kn, kn', a, h, hk, hq => by
    unfold okOps at h
    split at h
    · rename_i hc
      simp only [Bool.and_eq_true] at hc
      obtain ⟨⟨hg, hd⟩, hop⟩ := hc
      have hg' : o.guard = none := by simpa using hg
      cases hds : o.dst with
      | none => rw [hds] at hd; cases hd
      | some d =>
        rw [hds] at hd h
        simp only [okDst, Bool.and_eq_true, decide_eq_true_eq, Bool.not_eq_true', beq_eq_false_iff_ne] at hd
        refine wpList_plain hg' fun K hK => okOp_wp hk hop K Q fun x => hK _ _ ?_
        rw [hds]
        refine okOps_wp r (d :: kn) kn' _ h (put_kn hk hd.1.1.1 x) fun a' ha' hs => hq a' ha' (Same.trans (put_same a d hd.1.1.2 hd.1.2 hd.2 _) hs)
    · cases h

theorem okCode_wp' {N : Nat} {w : World} : ∀ (c : Code) (kn kn' : List Nat) (a : Act) (Q : Exit → Act → World → Prop), okCode N kn c = some kn' → Kn N kn a → (∀ a', Kn N kn' a' → Same a a' → Q .normal a' w) → c.wp Tryz.prog Q a w
  | .region i ops false, kn, kn', a, Q, h, hk, hq => wp_region_list (okOps_wp ops.toList kn kn' a h hk hq)
  | .seq x y, kn, kn', a, Q, h, hk, hq => by
    unfold okCode at h
    split at h
    · rename_i kn1 h1
      exact wp_seq (okCode_wp' x kn kn1 a _ h1 hk fun a1 hk1 hs1 => okCode_wp' y kn1 kn' a1 Q h hk1 fun a2 hk2 hs2 => hq a2 hk2 (hs1.trans hs2))
    · cases h

theorem okCode_wp {N : Nat} {w : World} {c : Code} {kn need : List Nat} {a : Act} {Q : Exit → Act → World → Prop} (h : checks N kn need c = true) (hk : Kn N kn a) (hq : ∀ a', Kn N need a' → Same a a' → Q .normal a' w) : c.wp Tryz.prog Q a w := by
  unfold checks at h
  split at h
  · rename_i kn' h1
    refine okCode_wp' c kn kn' a Q h1 hk fun a' hk' hs => hq a' ⟨hk'.1, fun s hs' => hk'.2 s ?_⟩ hs
    simpa using List.all_eq_true.1 h s hs'
  · cases h
end Go.Proofs.YtemcpcgcnjahjaaGreatDoor
/-
  The running sum of the samples: all that counts is that it goes on.
-/
namespace Go.Proofs.YtemcpcgcnjahjaaGreatDoor
open Go.RowKit

/-- The cells of a digest. -/
structure DigOk (cs : Array Value) (nx : Nat) : Prop where
  size : cs.size = 70
  s : ∀ i, i < 4 → ∃ x : Int, cs[i]? = some (.int .u32 x)
  x : ∀ i, i < 64 → ∃ x : Int, cs[4 + i]? = some (.int .u8 x)
  n : cs[68]? = some (.int .i64 nx)
  l : ∃ x : Int, cs[69]? = some (.int .u64 x)
def Dig (d nx : Nat) (w : World) : Prop := ∃ cs : Array Value, w.heap[d]? = some (.cells cs 170 (0, 0)) ∧ DigOk cs nx

theorem DigOk.setN {cs : Array Value} {nx : Nat} (h : DigOk cs nx) (m : Nat) : DigOk (cs.setIfInBounds 68 (.int .i64 m)) m where
  size := by simp [h.size]
  s := fun i hi => by
    obtain ⟨x, hx⟩ := h.s i hi
    exact ⟨x, by rw [Array.getElem?_setIfInBounds_ne (by omega)]; exact hx⟩
  x := fun i hi => by
    obtain ⟨x, hx⟩ := h.x i hi
    exact ⟨x, by rw [Array.getElem?_setIfInBounds_ne (by omega)]; exact hx⟩
  n := by rw [Array.getElem?_setIfInBounds_self_of_lt (by rw [h.size]; omega)]
  l := by
    obtain ⟨x, hx⟩ := h.l
    exact ⟨x, by rw [Array.getElem?_setIfInBounds_ne (by omega)]; exact hx⟩
theorem DigOk.setL {cs : Array Value} {nx : Nat} (h : DigOk cs nx) (m : Int) : DigOk (cs.setIfInBounds 69 (.int .u64 m)) nx where
  size := by simp [h.size]
  s := fun i hi => by
    obtain ⟨x, hx⟩ := h.s i hi
    exact ⟨x, by rw [Array.getElem?_setIfInBounds_ne (by omega)]; exact hx⟩
  x := fun i hi => by
    obtain ⟨x, hx⟩ := h.x i hi
    exact ⟨x, by rw [Array.getElem?_setIfInBounds_ne (by omega)]; exact hx⟩
  n := by rw [Array.getElem?_setIfInBounds_ne (by omega)]; exact h.n
  l := ⟨m, by rw [Array.getElem?_setIfInBounds_self_of_lt (by rw [h.size]; omega)]⟩
theorem DigOk.setS {cs : Array Value} {nx : Nat} (h : DigOk cs nx) (k : Nat) (hk : k < 4) (m : Int) : DigOk (cs.setIfInBounds k (.int .u32 m)) nx where
  size := by simp [h.size]
  s := fun i hi => by
    by_cases e : k = i
    · subst e; exact ⟨m, by rw [Array.getElem?_setIfInBounds_self_of_lt (by rw [h.size]; omega)]⟩
    · obtain ⟨x, hx⟩ := h.s i hi
      exact ⟨x, by rw [Array.getElem?_setIfInBounds_ne e]; exact hx⟩
  x := fun i hi => by
    obtain ⟨x, hx⟩ := h.x i hi
    exact ⟨x, by rw [Array.getElem?_setIfInBounds_ne (by omega)]; exact hx⟩
  n := by rw [Array.getElem?_setIfInBounds_ne (by omega)]; exact h.n
  l := by
    obtain ⟨x, hx⟩ := h.l
    exact ⟨x, by rw [Array.getElem?_setIfInBounds_ne (by omega)]; exact hx⟩

/-- Bytes as values, whichever. -/
def AnyBytes (l : List Value) : Prop := ∀ v ∈ l, ∃ x : Int, v = .int .u8 x
theorem DigOk.copy {cs : Array Value} {nx : Nat} (h : DigOk cs nx) (o : Nat) (l : List Value) (hl : AnyBytes l) (h4 : 4 ≤ o) (h68 : o + l.length ≤ 68) : DigOk (cs.toList.take o ++ l ++ cs.toList.drop (o + l.length)).toArray nx := by
  have hlen : cs.toList.length = 70 := by simp [h.size]
  have lo : ∀ i, i < o → (cs.toList.take o ++ l ++ cs.toList.drop (o + l.length)).toArray[i]? = cs[i]? := fun i hi => by
    rw [List.getElem?_toArray, List.append_assoc, List.getElem?_append_left (by rw [List.length_take]; omega), List.getElem?_take_of_lt hi, Array.getElem?_toList]
  have hi : ∀ i, o + l.length ≤ i → (cs.toList.take o ++ l ++ cs.toList.drop (o + l.length)).toArray[i]? = cs[i]? := fun i hi => by
    rw [List.getElem?_toArray, List.getElem?_append_right (by rw [List.length_append, List.length_take]; omega), List.length_append, List.length_take, List.getElem?_drop, ← Array.getElem?_toList]
    congr 1
    omega
  refine ⟨?_, fun i hi => ?_, fun i hi' => ?_, ?_, ?_⟩
  · simp only [List.size_toArray, List.length_append, List.length_take, List.length_drop, hlen]; omega
  · rw [lo i (by omega)]; exact h.s i hi
  · by_cases h1 : 4 + i < o
    · rw [lo _ h1]; exact h.x i hi'
    · by_cases h2 : o + l.length ≤ 4 + i
      · rw [hi _ h2]; exact h.x i hi'
      · have hlt : 4 + i - o < l.length := by omega
        obtain ⟨x, hx⟩ := hl _ (List.getElem_mem hlt)
        refine ⟨x, ?_⟩
        rw [List.getElem?_toArray, List.append_assoc, List.getElem?_append_right (by rw [List.length_take]; omega), List.length_take, hlen, Nat.min_eq_left (by omega), List.getElem?_append_left hlt, List.getElem?_eq_getElem hlt, hx]
  · rw [hi _ (by omega)]; exact h.n
  · rw [hi _ (by omega)]; exact h.l

theorem Kp.setRow (w : World) (d : Nat) (cs : Array Value) : Kp [d] w (w.setRow d cs) :=
  ⟨rfl, rfl, rfl, by simp [World.setRow], fun k _ hn => setRow_other _ _ _ _ (fun e => hn (by simp [e]))⟩

def MdBlock (d : Nat) : Prop := ∀ nx w, Dig d nx w → Calls Tryz.prog 171 #[.pointer (some ⟨d, 0, none⟩), .slice (some ⟨d, 4, none⟩) 64 64] w fun e w' => e = .returned (.tuple #[]) ∧ Dig d nx w' ∧ Kp [d] w w'

theorem Tryz.info5b : (Tryz.prog.info? 5).map (·.size) = some 1 := by kernel_rfl

def MdWrote (d n : Nat) (w : World) (e : Ending) (w' : World) : Prop := e = .returned (.tuple #[.int .i64 n, .nilIface]) ∧ (∃ nx, nx < 64 ∧ Dig d nx w') ∧ Kp [d] w w'

set_option maxRecDepth 100000 in
set_option maxHeartbeats 4000000 in
/-- (*digest).Write of one to three bytes, nothing waiting. -/
theorem mdWrite0 (d y n cap : Nat) (l : List Value) (w : World) (hD : Dig d 0 w) (hl : AnyBytes l) (hn : l.length = n) (hn1 : 1 ≤ n) (hn3 : n ≤ 3) (hs : ∀ j v, l[j]? = some v → w.cell? ⟨y, j, none⟩ = some v) (hy : y ≠ d) :
    Calls Tryz.prog 168 #[.pointer (some ⟨d, 0, none⟩), .slice (some ⟨y, 0, none⟩) n cap] w (MdWrote d n w) := by
  obtain ⟨cs, hd, hok⟩ := hD
  obtain ⟨L, hL⟩ := hok.l
  have c69 := (Lib.cell_of_heap hd 69).trans hL
  have c68 := (Lib.cell_of_heap hd 68).trans hok.n
  have z69 := Lib.frozen_of_heap hd 69
  have z68 := Lib.frozen_of_heap hd 68
  have HS := Lib.hid hs; clear hs
  have HD := Lib.hid hd; clear hd
  have HOK := Lib.hid hok; clear hok
  have HLL := Lib.hid hl; clear hl
  have HN := Lib.hid hn; clear hn
  have hg : (w.setCell ⟨d, 69, none⟩ (.int .u64 (IntKind.u64.wrap (L + n)))).heap[d]? = some (.cells (cs.setIfInBounds 69 (.int .u64 (IntKind.u64.wrap (L + n)))) 170 (0, 0)) := heap_set HD.out
  have hr : (Builtin.copy_ #[23, 23] 3 #[.slice (some ⟨d, 4, none⟩) 64 64, .slice (some ⟨y, 0, none⟩) n cap]).run Tryz.prog (w.setCell ⟨d, 69, none⟩ (.int .u64 (IntKind.u64.wrap (L + n)))) = .ok (.int .i64 n) ((w.setCell ⟨d, 69, none⟩ (.int .u64 (IntKind.u64.wrap (L + n)))).setRow d ((cs.setIfInBounds 69 (.int .u64 (IntKind.u64.wrap (L + n)))).toList.take 4 ++ l ++ (cs.setIfInBounds 69 (.int .u64 (IntKind.u64.wrap (L + n)))).toList.drop (4 + l.length)).toArray) := by
    have := run_copy_row (P := Tryz.prog) (w.setCell ⟨d, 69, none⟩ (.int .u64 (IntKind.u64.wrap (L + n)))) 23 23 3 5 d 4 64 64 ⟨y, 0, none⟩ n cap _ 170 l Tryz.underlying23 Tryz.info5b hg (by rw [HN.out]; show n = Nat.min n 64; exact (Nat.min_eq_left (by omega)).symm) (fun j v hj => by rw [Lib.addr_add, Nat.zero_add, World.cell?_setCell_other _ _ _ _ (by first | (simp; done) | (simp; intro h; exact absurd h.symm hy))]; exact HS.out j v hj) (by rw [HN.out]; simp [HOK.out.size]; omega) (fun v hv => by obtain ⟨x, rfl⟩ := HLL.out v hv; rfl)
    rw [this, HN.out]
    rfl
  have HG := Lib.hid hg; clear hg
  have HOK2 := Lib.hid ((HOK.out.setL (IntKind.u64.wrap (L + n))).copy 4 l HLL.out (by omega) (by rw [HN.out]; omega))
  have hrow := setRow_heap _ d _ ((cs.setIfInBounds 69 (.int .u64 (IntKind.u64.wrap (L + n)))).toList.take 4 ++ l ++ (cs.setIfInBounds 69 (.int .u64 (IntKind.u64.wrap (L + n)))).toList.drop (4 + l.length)).toArray 170 (0, 0) HG.out
  generalize (cs.setIfInBounds 69 (.int .u64 (IntKind.u64.wrap (L + n)))).toList.take 4 ++ l ++ (cs.setIfInBounds 69 (.int .u64 (IntKind.u64.wrap (L + n)))).toList.drop (4 + l.length) = cs2 at hr HOK2 hrow
  have y68 := Lib.frozen_of_heap hrow 68
  have x68 := (Lib.cell_of_heap hrow 68).trans HOK2.out.n
  have HROW := Lib.hid hrow; clear hrow
  go_enter Tryz.func168, Tryz.ntmps168
  go_wp2_with fail
  go_ret2
  refine ⟨rfl, ⟨n, by omega, _, heap_set HROW.out, HOK2.out.setN n⟩, ?_⟩
  exact ((Kp.setCell (S := [d]) _ _ _ (by simp)).trans (Kp.setRow _ d _)).trans (Kp.setCell _ _ _ (by simp))
end Go.Proofs.YtemcpcgcnjahjaaGreatDoor
