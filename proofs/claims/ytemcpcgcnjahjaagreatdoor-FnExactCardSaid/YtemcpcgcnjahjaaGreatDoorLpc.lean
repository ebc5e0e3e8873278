/-
  The rests beside a polynomial.
-/
import Derived.Test.YtemcpcgcnjahjaaGreatDoorParts
namespace Go.Proofs.YtemcpcgcnjahjaaGreatDoor
open Go.RowKit

theorem Tryz.info21 : (Tryz.prog.info? 21).map (fun i => (i.zero, i.size, i.bytes)) = some (some (.int .i32 0), 1, 4) := by kernel_rfl

theorem I32At.new (w : World) (xs : List Int) : I32At w.heap.size xs (w.alloc (.cells (xs.map (Value.int .i32)).toArray 21)) :=
  ⟨_, heap_alloc_new _ _, fun j x hx => by simp [hx]⟩
theorem I32At.alloc {g : Nat} {xs : List Int} {w : World} (h : I32At g xs w) (o : Obj) : I32At g xs (w.alloc o) := by
  obtain ⟨sc, hG, hx⟩ := h
  exact ⟨sc, heap_alloc hG, hx⟩
theorem I32At.kp {g : Nat} {xs : List Int} {w w' : World} {L : List Nat} (h : I32At g xs w) (k : Kp L w w') (hg : g ∉ L) : I32At g xs w' := by
  obtain ⟨sc, hG, hx⟩ := h
  exact ⟨sc, k.at hG hg, hx⟩

/-- The polynomials. -/
def coefs (o : Nat) : List Int := if o = 0 then [] else if o = 1 then [1] else if o = 2 then [2, -1] else if o = 3 then [3, -3, 1] else [4, -6, 4, -1]

/-- Numbers of 32 bits as a slice. -/
def I32Sl (base : Nat) (v : Value) (xs : List Int) (w : World) : Prop := (v = .slice none 0 0 ∧ xs = []) ∨ ∃ g cap, v = .slice (some ⟨g, 0, none⟩) xs.length cap ∧ base ≤ g ∧ I32At g xs w

def NewCoefs (o : Nat) (w : World) (e : Ending) (w' : World) : Prop := ∃ v, e = .returned v ∧ I32Sl w.heap.size v (coefs o) w' ∧ Kp [] w w'

set_option maxRecDepth 100000 in
set_option maxHeartbeats 4000000 in
/-- frame.FixedCoeffs. -/
theorem fixedCoeffs (o : Nat) (ho : o ≤ 4) (w : World) : Calls Tryz.prog 103 #[.int .i64 o] w (NewCoefs o w) := by
  rcases (by omega : o = 0 ∨ o = 1 ∨ o = 2 ∨ o = 3 ∨ o = 4) with rfl | rfl | rfl | rfl | rfl
  all_goals
    clear ho
    have h0 : ∀ (a b c d e : Value) (w : World), (Instr.index 267 (.agg #[a, b, c, d, e]) (.int .i64 0)).run Tryz.prog w = .ok a w := fun _ _ _ _ _ _ => by kernel_rfl
    have h1 : ∀ (a b c d e : Value) (w : World), (Instr.index 267 (.agg #[a, b, c, d, e]) (.int .i64 1)).run Tryz.prog w = .ok b w := fun _ _ _ _ _ _ => by kernel_rfl
    have h2 : ∀ (a b c d e : Value) (w : World), (Instr.index 267 (.agg #[a, b, c, d, e]) (.int .i64 2)).run Tryz.prog w = .ok c w := fun _ _ _ _ _ _ => by kernel_rfl
    have h3 : ∀ (a b c d e : Value) (w : World), (Instr.index 267 (.agg #[a, b, c, d, e]) (.int .i64 3)).run Tryz.prog w = .ok d w := fun _ _ _ _ _ _ => by kernel_rfl
    have h4 : ∀ (a b c d e : Value) (w : World), (Instr.index 267 (.agg #[a, b, c, d, e]) (.int .i64 4)).run Tryz.prog w = .ok e w := fun _ _ _ _ _ _ => by kernel_rfl
    go_enter Tryz.func103, Tryz.ntmps103
    go_wp2_with fail
    go_ret
  · exact ⟨_, rfl, .inl ⟨rfl, rfl⟩, (((Kp.alloc _ _ _).trans (Kp.alloc _ _ _)).trans (Kp.alloc _ _ _)).trans (Kp.alloc _ _ _)⟩
  all_goals
    refine ⟨_, rfl, .inr ⟨_, _, rfl, ?_, ?_⟩, (((Kp.alloc _ _ _).trans (Kp.alloc _ _ _)).trans (Kp.alloc _ _ _)).trans (Kp.alloc _ _ _)⟩
    · omega
    · first
        | exact (((I32At.new w [1]).alloc _).alloc _).alloc _
        | (have := ((I32At.new (w.alloc (.cells #[.int .i32 1] 21)) [2, -1]).alloc (.cells #[.int .i32 3, .int .i32 (-3), .int .i32 1] 21)).alloc (.cells #[.int .i32 4, .int .i32 (-6), .int .i32 4, .int .i32 (-1)] 21)
           simp only [World.size_alloc] at this
           exact this)
        | (have := (I32At.new ((w.alloc (.cells #[.int .i32 1] 21)).alloc (.cells #[.int .i32 2, .int .i32 (-1)] 21)) [3, -3, 1]).alloc (.cells #[.int .i32 4, .int .i32 (-6), .int .i32 4, .int .i32 (-1)] 21)
           simp only [World.size_alloc] at this
           exact this)
        | (have := I32At.new (((w.alloc (.cells #[.int .i32 1] 21)).alloc (.cells #[.int .i32 2, .int .i32 (-1)] 21)).alloc (.cells #[.int .i32 3, .int .i32 (-3), .int .i32 1] 21)) [4, -6, 4, -1]
           simp only [World.size_alloc] at this
           exact this)

/-- What a polynomial foresees, summed up to a place; what is left; all rests. -/
def accP (cf xs : List Int) (i : Nat) : Nat → Int
  | 0 => 0
  | j + 1 => accP cf xs i j + cf.getD j 0 * xs.getD (i - j - 1) 0
def resid (cf xs : List Int) (i : Nat) : Int := xs.getD i 0 - accP cf xs i cf.length
def rests (o : Nat) (xs : List Int) : List Int := (List.range (xs.length - o)).map fun t => resid (coefs o) xs (o + t)

theorem coefs_length (o : Nat) (h : o ≤ 4) : (coefs o).length = o := by
  rcases (by omega : o = 0 ∨ o = 1 ∨ o = 2 ∨ o = 3 ∨ o = 4) with rfl | rfl | rfl | rfl | rfl <;> rfl
theorem coefs_small (o j : Nat) : -6 ≤ (coefs o).getD j 0 ∧ (coefs o).getD j 0 ≤ 6 := by
  have h : ∀ x ∈ coefs o, -6 ≤ x ∧ x ≤ 6 := by
    unfold coefs
    split
    · simp
    · split
      · simp
      · split
        · simp
        · split <;> simp
  rw [List.getD_eq_getElem?_getD]
  cases hj : (coefs o)[j]? with
  | none => simp
  | some x => exact h x (List.mem_of_getElem? hj)
theorem mul_small (c x : Int) (h1 : -6 ≤ c) (h2 : c ≤ 6) (h3 : -16777216 ≤ x) (h4 : x ≤ 16777216) : -100663296 ≤ c * x ∧ c * x ≤ 100663296 := by
  rcases (by omega : c = -6 ∨ c = -5 ∨ c = -4 ∨ c = -3 ∨ c = -2 ∨ c = -1 ∨ c = 0 ∨ c = 1 ∨ c = 2 ∨ c = 3 ∨ c = 4 ∨ c = 5 ∨ c = 6) with rfl | rfl | rfl | rfl | rfl | rfl | rfl | rfl | rfl | rfl | rfl | rfl | rfl <;> omega
def Mid (xs : List Int) : Prop := ∀ x ∈ xs, -16777216 ≤ x ∧ x ≤ 16777216
theorem Mid.get {xs : List Int} (h : Mid xs) (j : Nat) : -16777216 ≤ xs.getD j 0 ∧ xs.getD j 0 ≤ 16777216 := by
  rw [List.getD_eq_getElem?_getD]
  cases hj : xs[j]? with
  | none => simp
  | some x => exact h x (List.mem_of_getElem? hj)
theorem accP_small (o : Nat) (xs : List Int) (i : Nat) (h : Mid xs) : ∀ j : Nat, -(100663296 * (j : Int)) ≤ accP (coefs o) xs i j ∧ accP (coefs o) xs i j ≤ 100663296 * (j : Int)
  | 0 => by simp [accP]
  | j + 1 => by
    have ih := accP_small o xs i h j
    have h1 := coefs_small o j
    have h2 := h.get (i - j - 1)
    have h3 := mul_small _ _ h1.1 h1.2 h2.1 h2.2
    simp only [accP]
    omega
theorem resid_small (o : Nat) (xs : List Int) (i : Nat) (h : Mid xs) (ho : o ≤ 4) : -419430400 ≤ resid (coefs o) xs i ∧ resid (coefs o) xs i ≤ 419430400 := by
  have h1 := accP_small o xs i h (coefs o).length
  have h2 := h.get i
  have h3 := coefs_length o ho
  unfold resid
  omega
theorem rests_length (o : Nat) (xs : List Int) : (rests o xs).length = xs.length - o := by simp [rests]
theorem rests_take (o : Nat) (xs : List Int) (k : Nat) (h : k < xs.length - o) : (rests o xs).take (k + 1) = (rests o xs).take k ++ [resid (coefs o) xs (o + k)] := by
  rw [List.take_add_one]
  simp [rests, h]

def NewRests (o : Nat) (xs : List Int) (w : World) (e : Ending) (w' : World) : Prop :=
  ∃ rg rcap, e = .returned (.tuple #[.slice (some ⟨rg, 0, none⟩) (xs.length - o) rcap, .nilIface]) ∧ w.heap.size ≤ rg ∧ I32At rg (rests o xs) w' ∧ Kp [] w w'

set_option maxRecDepth 100000 in
set_option maxHeartbeats 4000000 in
/-- getLPCResiduals. -/
theorem lpcRests (base : Nat) (c : PSub) (a R P g cap pcap : Nat) (v v4 v5 v6 : Value) (w : World) (hs : SubAt c a R P g cap pcap v4 v5 v6 w) (hv : I32Sl base v (coefs c.ord) w) (ho : c.ord ≤ 4) (hn : c.ord < c.smp.length) (hn2 : c.smp.length ≤ 65535) (hm : Mid c.smp) :
    Calls Tryz.prog 102 #[.pointer (some ⟨a, 0, none⟩), v, .int .i32 0] w (NewRests c.ord c.smp w) := by
  obtain ⟨i0, hi, hz0, hz1, hz2⟩ := info_parts Tryz.info21
  have hcl := coefs_length c.ord ho
  have HV : Hid (∃ va n cp, v = .slice va n cp ∧ n = c.ord) := by
    rcases hv with ⟨rfl, e⟩ | ⟨cg, cc, rfl, _, _⟩
    · exact ⟨_, _, _, rfl, by rw [e] at hcl; exact hcl⟩
    · exact ⟨_, _, _, rfl, hcl⟩
  obtain ⟨va, vn, vc, rfl, rfl⟩ := HV.out
  clear HV
  have HC : Hid (0 < c.ord → ∃ cg, va = some ⟨cg, 0, none⟩ ∧ I32At cg (coefs c.ord) w) := by
    show _ → _
    intro h0
    rcases hv with ⟨_, e⟩ | ⟨cg, cc, e, _, hI⟩
    · rw [e] at hcl; simp at hcl; omega
    · simp only [Value.slice.injEq] at e
      exact ⟨cg, e.1, hI⟩
  clear hv
  have HCL := Lib.hid hcl; clear hcl
  have HM := Lib.hid hm; clear hm
  have c1 := Lib.cell_of_heap hs.sub 1
  have c8 := Lib.cell_of_heap hs.sub 8
  have c9 := Lib.cell_of_heap hs.sub 9
  simp only [List.getElem?_toArray, List.getElem?_cons_zero, List.getElem?_cons_succ] at c1 c8 c9
  have HS := Lib.hid hs; clear hs
  go_enter Tryz.func102, Tryz.ntmps102
  go_wp2_with fail
  go_quiet (fail)
  go_wp2_with fail
  go_loopw [8, 9] (fun v9 iv wx => ∃ i : Nat, c.ord ≤ i ∧ i ≤ c.smp.length ∧ iv = .int .i64 i ∧ wx.ownsRow w.heap.size 21 1 v9 (i - c.ord) (((rests c.ord c.smp).take (i - c.ord)).map (Value.int .i32)) ∧ Kp [] w wx) (fun _ iv _ => c.smp.length - (intOf iv).toNat)
  case atStart =>
    refine ⟨c.ord, Nat.le_refl _, by omega, rfl, ?_, Kp.drewN _ _ _⟩
    rw [Nat.sub_self, List.take_zero]
    exact World.ownsRow_nil _ _ _ _
  case round =>
    clear c1 c8 c9
    obtain ⟨i, hi1, hi2, rfl, hown, hkp⟩ := hrel
    have HOW := Lib.hid hown; clear hown
    have HK := Lib.hid hkp; clear hkp
    have HSA := Lib.hid (HS.out.fr (HK.out.fr (B := 0) (by omega) (by simp)) (by simp))
    have c8 := Lib.cell_of_heap HSA.out.sub 8
    have c9 := Lib.cell_of_heap HSA.out.sub 9
    simp only [List.getElem?_toArray, List.getElem?_cons_zero, List.getElem?_cons_succ] at c8 c9
    by_cases hin : i < c.smp.length
    · go_wp2_with fail
      go_loop [10, 52] (fun sv jv => ∃ j : Nat, j ≤ c.ord ∧ jv = .int .i64 j ∧ sv = .int .i64 (accP (coefs c.ord) c.smp i j)) (fun _ jv => c.ord - (intOf jv).toNat)
      case atStart => exact ⟨0, by omega, rfl, rfl⟩
      case round =>
        obtain ⟨j, hj, rfl, rfl⟩ := hrel
        by_cases hjn : j < c.ord
        · obtain ⟨cg, rfl, hI⟩ := HC.out (by omega)
          have hcc := (hI.kp HK.out (by simp)).get j (by rw [HCL.out]; exact hjn)
          have hxx := HSA.out.get (i - j - 1) (by omega)
          have hA := accP_small c.ord c.smp i HM.out j
          have hcs := coefs_small c.ord j
          have hxs := HM.out.get (i - j - 1)
          have hmu := mul_small _ _ hcs.1 hcs.2 hxs.1 hxs.2
          have hAS : Hid (accP (coefs c.ord) c.smp i (j + 1) = accP (coefs c.ord) c.smp i j + (coefs c.ord).getD j 0 * c.smp.getD (i - j - 1) 0) := rfl
          generalize accP (coefs c.ord) c.smp i j = A at hA hAS
          generalize (coefs c.ord).getD j 0 = cj at hcc hcs hmu hAS
          generalize c.smp.getD (i - j - 1) 0 = xj at hxx hxs hmu hAS
          go_wp2_with fail
          go_round
          case rel => exact ⟨j + 1, by omega, by go_num, by rw [hAS.out]⟩
          case measure => simp [intOf]; omega
        · obtain rfl : j = c.ord := by omega
          have hA := accP_small c.ord c.smp i HM.out c.ord
          have hxx := HSA.out.get i hin
          have hxs := HM.out.get i
          have hR := resid_small c.ord c.smp i HM.out ho
          have hRE : Hid (resid (coefs c.ord) c.smp i = c.smp.getD i 0 - accP (coefs c.ord) c.smp i c.ord) := by
            show _ = _
            unfold resid; rw [HCL.out]
          have HT := Lib.hid (rests_take c.ord c.smp (i - c.ord) (by omega))
          rw [show c.ord + (i - c.ord) = i by omega] at HT
          generalize resid (coefs c.ord) c.smp i = r at hR hRE HT
          generalize accP (coefs c.ord) c.smp i c.ord = A at hA hRE
          generalize c.smp.getD i 0 = x at hxx hxs hRE
          have hw0 : Hid (w.heap.size ≤ wr.heap.size) := HK.out.size
          go_wp2_with (at_builtin; refine wpList_append_own _ rfl _ _ 50 rfl w.heap.size 21 i0 (.int .i32 0) 1 4 Tryz.underlying50 hi hz0 hz1 hz2 rfl (by decide) _ (i - c.ord) _ rfl (HOW.out.alloc _) ⟨wr.heap.size, 0, none⟩ 1 1 [.int .i32 (x - A)] rfl rfl (cell_one_new _ _ _) (by simp [Value.oneCell']) (by simp only [maxLen]; omega) (by omega) (by simp; exact Nat.le_succ_of_le hw0.out) ?_)
          intro v' w1 hown1 hgrow _
          have hk1 : Hid (w1.ownsRow w.heap.size 21 1 v' (i + 1 - c.ord) (((rests c.ord c.smp).take (i + 1 - c.ord)).map (Value.int .i32)) ∧ Kp [] w w1) := by
            refine ⟨?_, (HK.out.trans (Kp.alloc [] _ _)).new (Kp.grown (S := u8.ownBlock.toList) hgrow (by intro k hk; simp [hk])) (by
              intro k hk
              exact (HOW.out.lt k (by simpa using hk)).1)⟩
            rw [show i + 1 - c.ord = i - c.ord + 1 by omega, HT.out, List.map_append, List.map_cons, List.map_nil, hRE.out, List.map_take]
            exact hown1
          clear hown1 hgrow
          go_wp2_with fail
          go_roundw
          case rel => exact ⟨i + 1, by omega, by omega, by go_num, hk1.out⟩
          case measure => simp [intOf]; omega
    · obtain rfl : i = c.smp.length := by omega
      obtain ⟨rg, rcap, rfl, hg1, hg2⟩ := ownsRow_slice HOW.out (by omega)
      go_wp2_with fail
      go_ret2
      refine ⟨rg, rcap, rfl, hg1, ?_, HK.out⟩
      rcases HOW.out.2 with ⟨_, h0⟩ | ⟨g', cap', cur, he, hb, hg, hnc, _, hcs, htk⟩
      · omega
      · simp only [Value.slice.injEq, Option.some.injEq, Addr.mk.injEq] at he
        obtain ⟨⟨rfl, _⟩, _, rfl⟩ := he
        refine ⟨cur, hg, fun j x hj => ?_⟩
        have hj2 : ((rests c.ord c.smp).map (Value.int .i32))[j]? = some (.int .i32 x) := by simp [hj]
        have hlen : (rests c.ord c.smp).length = c.smp.length - c.ord := rests_length _ _
        have hlt : j < (rests c.ord c.smp).length := by
          have := List.getElem?_eq_some_iff.1 hj
          exact this.1
        have h3 : ((cur.toList.take ((c.smp.length - c.ord) * 1))[j]?) = some (.int .i32 x) := by
          rw [htk, List.take_of_length_le (by omega)]
          simp [hj]
        rw [List.getElem?_take] at h3
        split at h3
        · simpa using h3
        · cases h3
end Go.Proofs.YtemcpcgcnjahjaaGreatDoor
