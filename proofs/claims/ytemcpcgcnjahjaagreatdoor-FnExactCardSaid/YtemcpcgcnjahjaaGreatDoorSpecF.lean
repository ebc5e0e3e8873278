/-
  The reference's rests.
-/
import Derived.Test.YtemcpcgcnjahjaaGreatDoorSpecC
import Derived.Test.YtemcpcgcnjahjaaGreatDoorImpl
namespace Go.Proofs.YtemcpcgcnjahjaaGreatDoor
open Go.RowKit

/-- What a polynomial foresees. -/
def fixP (o : Nat) (xs : List Int) (i : Nat) : Int :=
  if o = 1 then xs.getD (i - 1) 0 else if o = 2 then 2 * xs.getD (i - 1) 0 - xs.getD (i - 2) 0
  else if o = 3 then 3 * xs.getD (i - 1) 0 - 3 * xs.getD (i - 2) 0 + xs.getD (i - 3) 0
  else if o = 4 then 4 * xs.getD (i - 1) 0 - 6 * xs.getD (i - 2) 0 + 4 * xs.getD (i - 3) 0 - xs.getD (i - 4) 0 else 0
theorem fixP_eq (o : Nat) (ho : o ≤ 4) (xs : List Int) (i : Nat) : accP (coefs o) xs i (coefs o).length = fixP o xs i := by
  rcases (by omega : o = 0 ∨ o = 1 ∨ o = 2 ∨ o = 3 ∨ o = 4) with rfl | rfl | rfl | rfl | rfl
  all_goals
    simp [coefs, accP, fixP]
    try (simp only [Nat.sub_sub, Nat.reduceAdd]; omega)

theorem mid_getD {xs : List Int} (hm : Mid xs) (j : Nat) : -16777216 ≤ xs.getD j 0 ∧ xs.getD j 0 ≤ 16777216 := by
  rw [List.getD_eq_getElem?_getD]
  cases hj : xs[j]? with
  | none => simp
  | some x => exact hm x (List.mem_of_getElem? hj)
theorem fixP_small (o : Nat) (xs : List Int) (i : Nat) (hm : Mid xs) : -268435456 ≤ fixP o xs i ∧ fixP o xs i ≤ 268435456 := by
  have m1 := mid_getD hm (i - 1)
  have m2 := mid_getD hm (i - 2)
  have m3 := mid_getD hm (i - 3)
  have m4 := mid_getD hm (i - 4)
  unfold fixP
  split
  · omega
  · split
    · omega
    · split
      · omega
      · split <;> omega

/-- What spec.fixedOf comes to. -/
def FixedOf (o : Nat) (xs : List Int) (i : Nat) (w : World) (e : Ending) (w' : World) : Prop := e = .returned (.int .i64 (fixP o xs i)) ∧ ∃ q, w' = w.drewN q

set_option maxRecDepth 100000 in
set_option maxHeartbeats 8000000 in
/-- spec.fixedOf. -/
theorem specFixed (o : Nat) (ho : o ≤ 4) (g cap i : Nat) (xs : List Int) (w : World) (hx : IntAt g xs w) (hm : Mid xs) (hi : i ≤ xs.length) (hoi : o ≤ i) (hl : xs.length ≤ 256) :
    Calls Tryz.prog 105 #[.slice (some ⟨g, 0, none⟩) i cap, .int .i64 o] w (FixedOf o xs i w) := by
  have HX := Lib.hid hx; clear hx
  have HM := Lib.hid hm; clear hm
  have HF : Hid (fixP o xs i = if o = 1 then xs.getD (i - 1) 0 else if o = 2 then 2 * xs.getD (i - 1) 0 - xs.getD (i - 2) 0
    else if o = 3 then 3 * xs.getD (i - 1) 0 - 3 * xs.getD (i - 2) 0 + xs.getD (i - 3) 0
    else if o = 4 then 4 * xs.getD (i - 1) 0 - 6 * xs.getD (i - 2) 0 + 4 * xs.getD (i - 3) 0 - xs.getD (i - 4) 0 else 0) := rfl
  have mid : ∀ j, -16777216 ≤ xs.getD j 0 ∧ xs.getD j 0 ≤ 16777216 := by
    intro j
    rw [List.getD_eq_getElem?_getD]
    cases hj : xs[j]? with
    | none => simp
    | some x => exact HM.out x (List.mem_of_getElem? hj)
  have MID := Lib.hid mid
  clear mid
  rcases (by omega : o = 0 ∨ o = 1 ∨ o = 2 ∨ o = 3 ∨ o = 4) with rfl | rfl | rfl | rfl | rfl
  · go_enter Tryz.func105, Tryz.ntmps105
    go_wp2_with fail
    go_ret
    exact ⟨by rw [HF.out]; rfl, 0, rfl⟩
  · have c1 := HX.out.get (i - 1) (by omega)
    have e1 : (i : Int) - 1 = ((i - 1 : Nat) : Int) := by omega
    have hf : Hid (fixP 1 xs i = xs.getD (i - 1) 0) := by show _ = _; rw [HF.out]; rfl
    generalize xs.getD (i - 1) 0 = x1 at c1 hf
    go_enter Tryz.func105, Tryz.ntmps105
    go_wp2_with fail
    go_ret
    exact ⟨by rw [hf.out]; rfl, 0, rfl⟩
  · have c1 := HX.out.get (i - 1) (by omega)
    have m1 := MID.out (i - 1)
    have c2 := HX.out.get (i - 2) (by omega)
    have m2 := MID.out (i - 2)
    have hf : Hid (fixP 2 xs i = 2 * xs.getD (i - 1) 0 - xs.getD (i - 2) 0) := by show _ = _; rw [HF.out]; rfl
    generalize xs.getD (i - 1) 0 = x1 at c1 m1 hf
    generalize xs.getD (i - 2) 0 = x2 at c2 m2 hf
    have q1 : (0 : Int) ≤ (i : Int) - 1 := by omega
    have r1 : ((i : Int) - 1).toNat = i - 1 := by omega
    have q2 : (0 : Int) ≤ (i : Int) - 2 := by omega
    have r2 : ((i : Int) - 2).toNat = i - 2 := by omega
    have s0 : IntKind.i64.wrap (2 * x1) = 2 * x1 := by rw [IntKind.wrap_i64]; omega
    have s1 : IntKind.i64.wrap (2 * x1 - x2) = 2 * x1 - x2 := by rw [IntKind.wrap_i64]; omega
    have t1 : IntKind.i64.wrap ((i : Int) - 1) = (i : Int) - 1 := by rw [IntKind.wrap_i64]; omega
    have t2 : IntKind.i64.wrap ((i : Int) - 2) = (i : Int) - 2 := by rw [IntKind.wrap_i64]; omega
    go_enter Tryz.func105, Tryz.ntmps105
    go_wp2_with fail
    go_quiet (fail)
    go_wp2_with fail
    go_ret
    exact ⟨by rw [hf.out]; rfl, _, rfl⟩
  · have c1 := HX.out.get (i - 1) (by omega)
    have m1 := MID.out (i - 1)
    have c2 := HX.out.get (i - 2) (by omega)
    have m2 := MID.out (i - 2)
    have c3 := HX.out.get (i - 3) (by omega)
    have m3 := MID.out (i - 3)
    have hf : Hid (fixP 3 xs i = 3 * xs.getD (i - 1) 0 - 3 * xs.getD (i - 2) 0 + xs.getD (i - 3) 0) := by show _ = _; rw [HF.out]; rfl
    generalize xs.getD (i - 1) 0 = x1 at c1 m1 hf
    generalize xs.getD (i - 2) 0 = x2 at c2 m2 hf
    generalize xs.getD (i - 3) 0 = x3 at c3 m3 hf
    have q1 : (0 : Int) ≤ (i : Int) - 1 := by omega
    have r1 : ((i : Int) - 1).toNat = i - 1 := by omega
    have q2 : (0 : Int) ≤ (i : Int) - 2 := by omega
    have r2 : ((i : Int) - 2).toNat = i - 2 := by omega
    have q3 : (0 : Int) ≤ (i : Int) - 3 := by omega
    have r3 : ((i : Int) - 3).toNat = i - 3 := by omega
    have s0 : IntKind.i64.wrap (3 * x1) = 3 * x1 := by rw [IntKind.wrap_i64]; omega
    have s1 : IntKind.i64.wrap (3 * x2) = 3 * x2 := by rw [IntKind.wrap_i64]; omega
    have s2 : IntKind.i64.wrap (3 * x1 - 3 * x2) = 3 * x1 - 3 * x2 := by rw [IntKind.wrap_i64]; omega
    have s3 : IntKind.i64.wrap (3 * x1 - 3 * x2 + x3) = 3 * x1 - 3 * x2 + x3 := by rw [IntKind.wrap_i64]; omega
    have t1 : IntKind.i64.wrap ((i : Int) - 1) = (i : Int) - 1 := by rw [IntKind.wrap_i64]; omega
    have t2 : IntKind.i64.wrap ((i : Int) - 2) = (i : Int) - 2 := by rw [IntKind.wrap_i64]; omega
    have t3 : IntKind.i64.wrap ((i : Int) - 3) = (i : Int) - 3 := by rw [IntKind.wrap_i64]; omega
    go_enter Tryz.func105, Tryz.ntmps105
    go_wp2_with fail
    go_quiet (fail)
    go_wp2_with fail
    go_ret
    exact ⟨by rw [hf.out]; rfl, _, rfl⟩
  · have c1 := HX.out.get (i - 1) (by omega)
    have m1 := MID.out (i - 1)
    have c2 := HX.out.get (i - 2) (by omega)
    have m2 := MID.out (i - 2)
    have c3 := HX.out.get (i - 3) (by omega)
    have m3 := MID.out (i - 3)
    have c4 := HX.out.get (i - 4) (by omega)
    have m4 := MID.out (i - 4)
    have hf : Hid (fixP 4 xs i = 4 * xs.getD (i - 1) 0 - 6 * xs.getD (i - 2) 0 + 4 * xs.getD (i - 3) 0 - xs.getD (i - 4) 0) := by show _ = _; rw [HF.out]; rfl
    generalize xs.getD (i - 1) 0 = x1 at c1 m1 hf
    generalize xs.getD (i - 2) 0 = x2 at c2 m2 hf
    generalize xs.getD (i - 3) 0 = x3 at c3 m3 hf
    generalize xs.getD (i - 4) 0 = x4 at c4 m4 hf
    have q1 : (0 : Int) ≤ (i : Int) - 1 := by omega
    have r1 : ((i : Int) - 1).toNat = i - 1 := by omega
    have q2 : (0 : Int) ≤ (i : Int) - 2 := by omega
    have r2 : ((i : Int) - 2).toNat = i - 2 := by omega
    have q3 : (0 : Int) ≤ (i : Int) - 3 := by omega
    have r3 : ((i : Int) - 3).toNat = i - 3 := by omega
    have q4 : (0 : Int) ≤ (i : Int) - 4 := by omega
    have r4 : ((i : Int) - 4).toNat = i - 4 := by omega
    have s0 : IntKind.i64.wrap (4 * x1) = 4 * x1 := by rw [IntKind.wrap_i64]; omega
    have s1 : IntKind.i64.wrap (6 * x2) = 6 * x2 := by rw [IntKind.wrap_i64]; omega
    have s2 : IntKind.i64.wrap (4 * x3) = 4 * x3 := by rw [IntKind.wrap_i64]; omega
    have s3 : IntKind.i64.wrap (4 * x1 - 6 * x2) = 4 * x1 - 6 * x2 := by rw [IntKind.wrap_i64]; omega
    have s4 : IntKind.i64.wrap (4 * x1 - 6 * x2 + 4 * x3) = 4 * x1 - 6 * x2 + 4 * x3 := by rw [IntKind.wrap_i64]; omega
    have s5 : IntKind.i64.wrap (4 * x1 - 6 * x2 + 4 * x3 - x4) = 4 * x1 - 6 * x2 + 4 * x3 - x4 := by rw [IntKind.wrap_i64]; omega
    have t1 : IntKind.i64.wrap ((i : Int) - 1) = (i : Int) - 1 := by rw [IntKind.wrap_i64]; omega
    have t2 : IntKind.i64.wrap ((i : Int) - 2) = (i : Int) - 2 := by rw [IntKind.wrap_i64]; omega
    have t3 : IntKind.i64.wrap ((i : Int) - 3) = (i : Int) - 3 := by rw [IntKind.wrap_i64]; omega
    have t4 : IntKind.i64.wrap ((i : Int) - 4) = (i : Int) - 4 := by rw [IntKind.wrap_i64]; omega
    go_enter Tryz.func105, Tryz.ntmps105
    go_wp2_with fail
    go_quiet (fail)
    go_wp2_with fail
    go_ret
    exact ⟨by rw [hf.out]; rfl, _, rfl⟩

theorem Tryz.info3 : (Tryz.prog.info? 3).map (fun i => (i.zero, i.size, i.bytes)) = some (some (.int .i64 0), 1, 8) := by kernel_rfl

/-- Whole numbers as values. -/
def intsV (l : List Int) : List Value := l.map (Value.int .i64)
theorem intsV_length (l : List Int) : (intsV l).length = l.length := by simp [intsV]
theorem intsV_snoc (l : List Int) (x : Int) : intsV (l ++ [x]) = intsV l ++ [.int .i64 x] := by simp [intsV]
theorem ints_one (xs : List Int) : ∀ u ∈ intsV xs, u.oneCell' = true := by
  intro u hu
  unfold intsV at hu
  rw [List.mem_map] at hu
  obtain ⟨x, _, rfl⟩ := hu
  rfl
/-- A row of whole numbers that is owned, as they lie. -/
theorem own_ints {w : World} {B g n cap : Nat} {xs : List Int} (h : w.ownsRow B 3 1 (.slice (some ⟨g, 0, none⟩) n cap) n (intsV xs)) : IntAt g xs w := by
  rcases h.2 with ⟨h', _⟩ | ⟨g', cap', cur, h', _, hg, _, _, _, htk⟩
  · cases h'
  · cases h'
    refine ⟨cur, hg, fun j x hx => ?_⟩
    have h6 : (intsV xs)[j]? = some (.int .i64 x) := by simp [intsV, hx]
    rw [← htk, List.getElem?_take] at h6
    split at h6
    · simpa using h6
    · cases h6

/-- Whole numbers that are new. -/
def NewInts (xs : List Int) (w : World) (e : Ending) (w' : World) : Prop := ∃ g cap, e = .returned (.slice (some ⟨g, 0, none⟩) xs.length cap) ∧ w'.ownsRow w.heap.size 3 1 (.slice (some ⟨g, 0, none⟩) xs.length cap) xs.length (intsV xs) ∧ Kp [] w w'

set_option maxRecDepth 100000 in
set_option maxHeartbeats 8000000 in
/-- (Way).rests. -/
theorem specRests (o : Nat) (ho : o ≤ 4) (g cap : Nat) (xs : List Int) (v3 v4 v5 v6 v7 v8 v9 : Value) (w : World) (hx : IntAt g xs w) (hm : Mid xs) (h1 : o < xs.length) (hl : xs.length ≤ 256) :
    Calls Tryz.prog 84 #[.agg #[.int .i64 2, .int .i64 o, .int .i64 0, v3, v4, v5, v6, v7, v8, v9], .slice (some ⟨g, 0, none⟩) xs.length cap] w (NewInts (rests o xs) w) := by
  obtain ⟨i0, hi, hz0, hz1, hz2⟩ := info_parts Tryz.info3
  have HX := Lib.hid hx; clear hx
  have HM := Lib.hid hm; clear hm
  generalize hO : (Obj.cells #[.int .i64 2, .int .i64 o, .int .i64 0, v3, v4, v5, v6, v7, v8, v9] 93 (0, 0)) = O
  have hw0 : Hid (((w.alloc O).alloc (.cells #[] 3)).heap[w.heap.size]? = some O ∧ Kp [] w ((w.alloc O).alloc (.cells #[] 3)) ∧ ((w.alloc O).alloc (.cells #[] 3)).ownsRow w.heap.size 3 1 (.slice (some ⟨w.heap.size + 1, 0, none⟩) 0 0) 0 []) := by
    refine ⟨heap_alloc (heap_alloc_new _ _), (Kp.alloc _ _ _).trans (Kp.alloc _ _ _), ?_⟩
    have h := World.ownsRow_made (base := w.heap.size) (e := 3) (size := 1) (w.alloc O) #[] 0 (by simp) (by decide) rfl
    rw [World.size_alloc] at h
    exact h
  subst hO
  go_enter Tryz.func84, Tryz.ntmps84
  go_wp2_with fail
  go_loopw [5, 14] (fun t j wx => ∃ k g2 cap2 : Nat, k ≤ xs.length ∧ j = .int .i64 k ∧ t = .slice (some ⟨g2, 0, none⟩) k cap2 ∧ wx.ownsRow w.heap.size 3 1 (.slice (some ⟨g2, 0, none⟩) k cap2) k (intsV (xs.take k)) ∧ wx.heap[w.heap.size]? = some (.cells #[.int .i64 2, .int .i64 o, .int .i64 0, v3, v4, v5, v6, v7, v8, v9] 93 (0, 0)) ∧ Kp [] w wx) (fun _ j _ => xs.length - (intOf j).toNat)
  case atStart => exact ⟨0, _, 0, by omega, rfl, rfl, by simpa [intsV] using hw0.out.2.2, hw0.out.1, hw0.out.2.1⟩
  case round =>
    obtain ⟨k, g2, cap2, hk, rfl, rfl, hown, hS, hkp⟩ := hrel
    have HO := Lib.hid hown
    have HS := Lib.hid hS
    have HK := Lib.hid hkp
    clear hown hS hkp
    by_cases hkn : k < xs.length
    · have hc := (HX.out.kp HK.out (by simp)).get k hkn
      have c2 := Lib.cell_of_heap HS.out 2
      simp only [List.getElem?_toArray, List.getElem?_cons_zero, List.getElem?_cons_succ] at c2
      have HT : Hid (intsV (xs.take (k + 1)) = intsV (xs.take k) ++ [.int .i64 (xs.getD k 0)]) := by
        show _ = _
        rw [List.take_succ_eq_append_getElem hkn, intsV_snoc, List.getD_eq_getElem?_getD, List.getElem?_eq_getElem hkn]
        rfl
      generalize xs.getD k 0 = x at hc HT
      have HOA := Lib.hid (HO.out.alloc (.cells #[.int .i64 x] 3))
      have HSZ : Hid (w.heap.size ≤ (wr.alloc (.cells #[.int .i64 x] 3)).heap.size) := by
        have := HK.out.size
        show _ ≤ _
        simp only [World.size_alloc]; omega
      go_wp2_with (at_builtin; refine wpList_append_lies _ rfl _ _ 48 rfl w.heap.size 3 i0 (.int .i64 0) 1 8 Tryz.underlying48 hi hz0 hz1 hz2 rfl (by decide) _ k _ rfl HOA.out ⟨wr.heap.size, 0, none⟩ 1 1 [.int .i64 x] rfl rfl (cell_one_new _ _ _) (by simp [Value.oneCell']) (by decide) (by unfold maxLen; omega) (by omega) HSZ.out _ rfl ?_)
      intro g3 cap3 w1 hown hgrow _ _
      have HK1 : Hid (Kp [] w w1) := (HK.out.trans (Kp.alloc _ _ _)).new (Kp.grown (S := [g2]) hgrow (by intro k hk; simpa [Value.ownBlock] using hk.symm)) (by
        have := (HO.out.lt g2 rfl).1
        simpa using this)
      have HO1 : Hid (w1.ownsRow w.heap.size 3 1 (.slice (some ⟨g3, 0, none⟩) (k + 1) cap3) (k + 1) (intsV (xs.take (k + 1)))) := by
        show World.ownsRow _ _ _ _ _ _ _
        rw [HT.out]; exact hown
      have HS1 : Hid (w1.heap[w.heap.size]? = some (.cells #[.int .i64 2, .int .i64 o, .int .i64 0, v3, v4, v5, v6, v7, v8, v9] 93 (0, 0))) := by
        have k1 : Kp [g2] (wr.alloc (.cells #[.int .i64 x] 3)) w1 := Kp.grown hgrow (by intro k hk; simpa [Value.ownBlock] using hk.symm)
        refine k1.at (heap_alloc HS.out) ?_
        intro hm
        have e : w.heap.size = g2 := by simpa using hm
        exact own_not HO.out HS.out (by decide) g2 rfl (by simp [e])
      clear hown hgrow
      go_wp2_with fail
      go_roundw
      case rel => exact ⟨k + 1, g3, cap3, by omega, by go_num, rfl, HO1.out, HS1.out, HK1.out⟩
      case measure => simp [intOf]; omega
    · obtain rfl : k = xs.length := by omega
      rw [List.take_length] at HO
      have HOX := Lib.hid (own_ints HO.out)
      have c1 := Lib.cell_of_heap HS.out 1
      simp only [List.getElem?_toArray, List.getElem?_cons_zero, List.getElem?_cons_succ] at c1
      have hls := Lib.lt_of_heap HS.out
      have HN0 : Hid ((wr.alloc (.cells #[] 3)).ownsRow w.heap.size 3 1 (.slice (some ⟨wr.heap.size, 0, none⟩) 0 0) 0 []) := World.ownsRow_made (base := w.heap.size) (e := 3) (size := 1) wr #[] 0 HK.out.size (by decide) rfl
      have hcap2 : xs.length ≤ cap2 := by
        rcases HO.out.2 with ⟨h, _⟩ | ⟨g5, cap5, cur, h, _, _, hnc, _⟩
        · cases h
        · cases h; exact hnc
      have HR0 : Hid ((rests o xs).length = xs.length - o) := rests_length o xs
      go_wp2_with fail
      go_loopw [8, 9] (fun t j wx => ∃ k g4 cap4 : Nat, k ≤ xs.length - o ∧ j = .int .i64 (o + k : Nat) ∧ t = .slice (some ⟨g4, 0, none⟩) k cap4 ∧ wx.ownsRow w.heap.size 3 1 (.slice (some ⟨g4, 0, none⟩) k cap4) k (intsV ((rests o xs).take k)) ∧ IntAt g2 xs wx ∧ g4 ≠ g2 ∧ wx.heap[w.heap.size]? = some (.cells #[.int .i64 2, .int .i64 o, .int .i64 0, v3, v4, v5, v6, v7, v8, v9] 93 (0, 0)) ∧ Kp [] w wx) (fun _ j _ => xs.length - (intOf j).toNat)
      case atStart =>
        refine ⟨0, _, 0, by omega, rfl, rfl, by simpa [intsV] using HN0.out, ?_, ?_, heap_alloc HS.out, HK.out.trans (Kp.alloc _ _ _)⟩
        · exact HOX.out.kp (Kp.alloc [] _ _) (by simp)
        · have := (HO.out.lt g2 rfl).2
          omega
      case round =>
        clear HOX HN0 c1 HS HK HO hls
        obtain ⟨k, g4, cap4, hk, rfl, rfl, hown, hix, hne, hS, hkp⟩ := hrel
        have HO := Lib.hid hown
        have HS := Lib.hid hS
        have HK := Lib.hid hkp
        have HI := Lib.hid hix
        have HNE := Lib.hid hne
        clear hown hS hkp hix hne
        by_cases hkn : k < xs.length - o
        · have hc := HI.out.get (o + k) (by omega)
          have HT : Hid (intsV ((rests o xs).take (k + 1)) = intsV ((rests o xs).take k) ++ [.int .i64 (xs.getD (o + k) 0 - fixP o xs (o + k))]) := by
            show _ = _
            rw [rests_take o xs k hkn, intsV_snoc]
            unfold resid
            rw [fixP_eq o ho]
          have hxm := mid_getD HM.out (o + k)
          have hfm := fixP_small o xs (o + k) HM.out
          have hmx : o + k < xs.length := by omega
          have hmo : o ≤ o + k := by omega
          have c0 := Lib.cell_of_heap HS.out 0
          have c1 := Lib.cell_of_heap HS.out 1
          simp only [List.getElem?_toArray, List.getElem?_cons_zero, List.getElem?_cons_succ] at c0 c1
          have hls := Lib.lt_of_heap HS.out
          generalize hme : o + k = m at hc HT hxm hfm hmx hmo ⊢
          have HME := Lib.hid hme
          clear hme
          have HCQ : Hid (∀ q, Calls Tryz.prog 105 #[.slice (some ⟨g2, 0, none⟩) m cap2, .int .i64 o] (wr.drewN q) (FixedOf o xs m (wr.drewN q))) := fun q => specFixed o ho g2 cap2 m xs (wr.drewN q) HI.out HM.out (by omega) hmo hl
          go_wp2_with fail
          go_quiet ((go_at_call 105; exact Calls.quiet_of ((HCQ.out _).mono fun _ _ h => h)))
          generalize fixP o xs m = fx at hfm HT ⊢
          generalize xs.getD m 0 = x at hc hxm HT
          have HOA : Hid (∀ q, ((wr.drewN q).alloc (.cells #[.int .i64 (x - fx)] 3)).ownsRow w.heap.size 3 1 (.slice (some ⟨g4, 0, none⟩) k cap4) k (intsV ((rests o xs).take k))) := fun q => HO.out.alloc _
          have HNQ : Hid (∀ q (j : Nat) u, ([.int .i64 (x - fx)] : List Value)[j]? = some u → ((wr.drewN q).alloc (.cells #[.int .i64 (x - fx)] 3)).cell? ((⟨wr.heap.size, 0, none⟩ : Addr).add j) = some u) := fun q => cell_one_new (wr.drewN q) (.int .i64 (x - fx)) 3
          have HSQ : Hid (∀ q, w.heap.size ≤ ((wr.drewN q).alloc (.cells #[.int .i64 (x - fx)] 3)).heap.size) := by
            show ∀ q, _
            intro q
            have h1 := HK.out.size
            show _ ≤ (wr.heap.push _).size
            rw [Array.size_push]
            omega
          go_wp2_with (at_builtin; refine wpList_append_lies _ rfl _ _ 48 rfl w.heap.size 3 i0 (.int .i64 0) 1 8 Tryz.underlying48 hi hz0 hz1 hz2 rfl (by decide) _ k _ rfl (HOA.out _) ⟨wr.heap.size, 0, none⟩ 1 1 [.int .i64 (x - fx)] rfl rfl (HNQ.out _) (by simp [Value.oneCell']) (by decide) (by unfold maxLen; omega) (by omega) (HSQ.out _) _ rfl ?_)
          intro g5 cap5 w1 hown hgrow hat _
          have hkg : Kp [g4] wr w1 := (((Kp.drewN _ _ _).trans (Kp.alloc _ _ _)).trans (Kp.grown (S := [g4]) hgrow (by intro k hk; simpa [Value.ownBlock] using hk.symm)))
          have HK1 : Hid (Kp [] w w1) := HK.out.new hkg (by
            have := (HO.out.lt g4 rfl).1
            simpa using this)
          have HO1 : Hid (w1.ownsRow w.heap.size 3 1 (.slice (some ⟨g5, 0, none⟩) (k + 1) cap5) (k + 1) (intsV ((rests o xs).take (k + 1)))) := by
            show World.ownsRow _ _ _ _ _ _ _
            rw [HT.out]; exact hown
          have HS1 : Hid (w1.heap[w.heap.size]? = some (.cells #[.int .i64 2, .int .i64 o, .int .i64 0, v3, v4, v5, v6, v7, v8, v9] 93 (0, 0))) := by
            refine hkg.at HS.out ?_
            intro hm
            have e : w.heap.size = g4 := by simpa using hm
            exact own_not HO.out HS.out (by decide) g4 rfl (by simp [e])
          have HI1 := Lib.hid (HI.out.kp hkg (by have := HNE.out; simp; omega))
          have HN1 : Hid (g5 ≠ g2) := by
            show ¬ _
            intro e
            have h2 := World.block_lt_of_cell? _ _ hc
            rcases hat with h | h
            · simp only [Value.ownBlock, Option.some.injEq] at h
              exact HNE.out (h.trans e)
            · have h3 : g2 < wr.heap.size := h2
              omega
          clear hown hgrow hat hkg
          go_wp2_with fail
          go_roundw
          case rel => exact ⟨k + 1, g5, cap5, by omega, by rw [← Nat.add_assoc, HME.out]; go_num, rfl, HO1.out, HI1.out, HN1.out, HS1.out, HK1.out⟩
          case measure => simp [intOf]; omega
        · obtain rfl : k = xs.length - o := by omega
          rw [← HR0.out, List.take_length] at HO
          have HR1 := HR0.out
          have hro : Hid (xs.length - o = (rests o xs).length) := HR1.symm
          clear HR1
          go_wp2_with fail
          go_ret
          rw [NewInts]
          refine ⟨g4, cap4, ?_, ?_, HK.out⟩
          · rw [← hro.out]; rfl
          · exact HO.out
end Go.Proofs.YtemcpcgcnjahjaaGreatDoor
