/-
  The running sum takes some bytes more.
-/
import Derived.Test.YtemcpcgcnjahjaaGreatDoorMdD
import Derived.BigRegion
namespace Go.Proofs.YtemcpcgcnjahjaaGreatDoor
open Go.RowKit

theorem copy_dig (w : World) (d y o dl n cap : Nat) (cs : Array Value) (l : List Value) (hg : w.heap[d]? = some (.cells cs 170 (0, 0))) (hsz : cs.size = 70) (hl : AnyBytes l) (hn : l.length = Nat.min n dl) (yo : Nat) (ho : o + l.length ≤ 68)
    (hs : ∀ j v, l[j]? = some v → w.cell? ⟨y, yo + j, none⟩ = some v) :
    (Builtin.copy_ #[23, 23] 3 #[.slice (some ⟨d, o, none⟩) dl dl, .slice (some ⟨y, yo, none⟩) n cap]).run Tryz.prog w = .ok (.int .i64 l.length) (w.setRow d (cs.toList.take o ++ l ++ cs.toList.drop (o + l.length)).toArray) :=
  run_copy_row (P := Tryz.prog) w 23 23 3 5 d o dl dl ⟨y, yo, none⟩ n cap cs 170 l Tryz.underlying23 Tryz.info5b hg hn (fun j v hj => by rw [Lib.addr_add]; exact hs j v hj) (by omega) (fun v hv => by obtain ⟨x, rfl⟩ := hl v hv; rfl)

theorem slice168 (d nx : Nat) (h : nx < 64) (w : World) : (Instr.sliceAt 168 (.pointer (some ⟨d, 4, none⟩)) (some (.int .i64 nx)) none none).run Tryz.prog w = .ok (.slice (some ⟨d, 4 + nx, none⟩) (64 - nx) (64 - nx)) w := by
  have ha : Tryz.prog.arrayLen 168 = 64 := by kernel_rfl
  have hs : ∀ w, (sizeOf (Tryz.prog.elem 168)).run Tryz.prog w = .ok 1 w := fun _ => by kernel_rfl
  rw [run_sliceAt_array_l w 168 ⟨d, 4, none⟩ (by kernel_rfl) .i64 nx (by omega) (by rw [ha]; omega), ha, hs]
  simp only [Result.andThen_ok, slicedAt, Int.toNat_natCast, Nat.mul_one, Lib.addr_add]
  rw [if_neg (by omega)]

set_option maxRecDepth 100000 in
set_option maxHeartbeats 4000000 in
/-- (*digest).Write of one to three bytes, some waiting. -/
theorem mdWrite1 (d y n cap nx : Nat) (l : List Value) (w : World) (hD : Dig d nx w) (hx0 : 0 < nx) (hx : nx < 64) (hl : AnyBytes l) (hn : l.length = n) (hn1 : 1 ≤ n) (hn3 : n ≤ 3) (hs : ∀ j v, l[j]? = some v → w.cell? ⟨y, j, none⟩ = some v) (hy : y ≠ d) (hcap : n ≤ cap) :
    Calls Tryz.prog 168 #[.pointer (some ⟨d, 0, none⟩), .slice (some ⟨y, 0, none⟩) n cap] w (MdWrote d n w) := by
  obtain ⟨cs, hd, hok⟩ := hD
  obtain ⟨L, hL⟩ := hok.l
  have c69 := (Lib.cell_of_heap hd 69).trans hL
  have c68 := (Lib.cell_of_heap hd 68).trans hok.n
  have z69 := Lib.frozen_of_heap hd 69
  have z68 := Lib.frozen_of_heap hd 68
  have HS := Lib.hid hs; clear hs
  have HD := Lib.hid hd; clear hd
  have HOK := Lib.hid hok; clear hok
  have HLL := Lib.hid hl; clear hl
  have HN := Lib.hid hn; clear hn
  go_enter Tryz.func168, Tryz.ntmps168
  go_wp2_with fail
  generalize hwe : w.setCell ⟨d, 69, none⟩ (.int .u64 (IntKind.u64.wrap (L + n))) = w1
  have hdw : w1.heap[d]? = some (.cells (cs.setIfInBounds 69 (.int .u64 (IntKind.u64.wrap (L + n)))) 170 (0, 0)) := by rw [← hwe]; exact heap_set HD.out
  have HW1 : Hid (Kp [d] w w1) := by rw [← hwe]; exact Kp.setCell _ _ _ (by simp)
  have HS1 : Hid (∀ j v, l[j]? = some v → w1.cell? ⟨y, j, none⟩ = some v) := by
    show ∀ j v, _ → _
    intro j v hj
    have hc := HS.out j v hj
    rw [World.cell?_of_block (HW1.out.block y (World.block_lt_of_cell? _ _ hc) (by simpa using hy))]
    exact hc
  have HOK1 := Lib.hid (HOK.out.setL (IntKind.u64.wrap (L + n)))
  generalize cs.setIfInBounds 69 (.int .u64 (IntKind.u64.wrap (L + n))) = cs1 at hdw HOK1
  clear hwe c69 c68 z69 z68
  have y68 := Lib.frozen_of_heap hdw 68
  have x68 := (Lib.cell_of_heap hdw 68).trans HOK1.out.n
  have HDW := Lib.hid hdw; clear hdw
  have hsl := slice168 d nx hx
  by_cases hbig : nx + n < 64
  · have hr := copy_dig w1.drew d y (4 + nx) (64 - nx) n cap cs1 l HDW.out HOK1.out.size HLL.out (by rw [HN.out]; exact (Nat.min_eq_left (by omega)).symm) 0 (by rw [HN.out]; omega) (fun j v hj => by rw [Nat.zero_add]; exact HS1.out j v hj)
    rw [HN.out] at hr
    have HOK2 := Lib.hid (HOK1.out.copy (4 + nx) l HLL.out (by omega) (by rw [HN.out]; omega))
    rw [HN.out] at HOK2
    have hrow := setRow_heap w1.drew d cs1 (cs1.toList.take (4 + nx) ++ l ++ cs1.toList.drop (4 + nx + n)).toArray 170 (0, 0) HDW.out
    generalize cs1.toList.take (4 + nx) ++ l ++ cs1.toList.drop (4 + nx + n) = cs2 at hr HOK2 hrow
    have u68 := Lib.frozen_of_heap hrow 68
    have v68 := (Lib.cell_of_heap hrow 68).trans HOK2.out.n
    have HROW := Lib.hid hrow; clear hrow
    go_region
    have h64 : ((nx : Int) + (n : Int) == 64) = false := by simp; omega
    have hKR := Lib.hid (HW1.out.trans (((Kp.drew [d] w1).trans (Kp.setRow _ d cs2.toArray))))
    have hcc : n = cap ∨ n < cap := by omega
    rcases hcc with rfl | hcc
    all_goals
      go_wp2_with fail
      go_ret2
      refine ⟨rfl, ⟨nx + n, by omega, _, heap_set HROW.out, ?_⟩, hKR.out.trans (Kp.setCell _ _ _ (by simp))⟩
      have := HOK2.out.setN (nx + n)
      rw [Int.natCast_add] at this
      exact this
  · have hlt : l.length = n := HN.out
    have hr := copy_dig w1.drew d y (4 + nx) (64 - nx) n cap cs1 (l.take (64 - nx)) HDW.out HOK1.out.size (fun v hv => HLL.out v (List.mem_of_mem_take hv)) (by rw [List.length_take, hlt]; exact Nat.min_comm _ _) 0 (by rw [List.length_take]; omega) (fun j v hj => by
      rw [Nat.zero_add]
      rw [List.getElem?_take] at hj
      split at hj
      · exact HS1.out j v hj
      · cases hj)
    have htl : (l.take (64 - nx)).length = 64 - nx := List.length_take_of_le (by omega)
    have HOK2 := Lib.hid (HOK1.out.copy (4 + nx) (l.take (64 - nx)) (fun v hv => HLL.out v (List.mem_of_mem_take hv)) (by omega) (by rw [htl]; omega))
    rw [htl] at hr HOK2
    have hrow := setRow_heap w1.drew d cs1 (cs1.toList.take (4 + nx) ++ l.take (64 - nx) ++ cs1.toList.drop (4 + nx + (64 - nx))).toArray 170 (0, 0) HDW.out
    generalize cs1.toList.take (4 + nx) ++ l.take (64 - nx) ++ cs1.toList.drop (4 + nx + (64 - nx)) = cs2 at hr HOK2 hrow
    clear htl
    have u68 := Lib.frozen_of_heap hrow 68
    have v68 := (Lib.cell_of_heap hrow 68).trans HOK2.out.n
    have HROW := Lib.hid hrow; clear hrow
    have HLT := Lib.hid hlt; clear hlt
    go_region
    have h64 : (nx : Int) + ((64 - nx : Nat) : Int) = 64 := by omega
    have hKR := Lib.hid (HW1.out.trans (((Kp.drew [d] w1).trans (Kp.setRow _ d cs2.toArray))))
    go_wp2_with fail
    refine (mdBlock d 64 _ ⟨_, heap_set HROW.out, HOK2.out.setN 64⟩).mono ?_
    rintro e w3 ⟨rfl, hD3, hk3⟩
    have HK3 := Lib.hid ((hKR.out.trans (Kp.setCell _ _ _ (by simp))).trans hk3)
    clear hk3 hr u68 v68 y68 x68 hsl h64
    obtain ⟨cs3, hd3, hok3⟩ := hD3
    have z3 := Lib.frozen_of_heap hd3 68
    have c3 := (Lib.cell_of_heap hd3 68).trans hok3.n
    have HD4 := Lib.hid (heap_set (i := 68) (v := .int .i64 0) hd3)
    have HOK4 : Hid (DigOk (cs3.setIfInBounds 68 (.int .i64 0)) 0) := hok3.setN 0
    clear hd3 hok3
    have HS4 : Hid (∀ j v, l[j]? = some v → (w3.setCell ⟨d, 68, none⟩ (.int .i64 0)).cell? ⟨y, j, none⟩ = some v) := by
      show ∀ j v, _ → _
      intro j v hj
      have hc := HS.out j v hj
      rw [World.cell?_of_block ((HK3.out.trans (Kp.setCell (S := [d]) w3 ⟨d, 68, none⟩ _ (by simp))).block y (World.block_lt_of_cell? _ _ hc) (by simpa using hy))]
      exact hc
    generalize cs3.setIfInBounds 68 (.int .i64 0) = cs4 at HD4 HOK4
    have hcc : n = cap ∨ n < cap := by omega
    by_cases hr0 : n = 64 - nx
    · rcases hcc with rfl | hcc
      all_goals
        go_wp2_with fail
        go_ret2
        exact ⟨by rw [hr0]; rfl, ⟨0, by omega, _, HD4.out, HOK4.out⟩, HK3.out.trans (Kp.setCell _ _ _ (by simp))⟩
    · have hcl : 64 - nx < cap := by omega
      clear hcc
      have hr := copy_dig _ d y 4 64 (n - (64 - nx)) (cap - (64 - nx)) cs4 (l.drop (64 - nx)) HD4.out HOK4.out.size (fun v hv => HLL.out v (List.mem_of_mem_drop hv)) (by rw [List.length_drop, HLT.out]; exact (Nat.min_eq_left (by omega)).symm) (64 - nx) (by rw [List.length_drop, HLT.out]; omega) (fun j v hj => by
        rw [List.getElem?_drop] at hj
        exact HS4.out _ v hj)
      have hdl : (l.drop (64 - nx)).length = n - (64 - nx) := by rw [List.length_drop, HLT.out]
      have HOK5 := Lib.hid (HOK4.out.copy 4 (l.drop (64 - nx)) (fun v hv => HLL.out v (List.mem_of_mem_drop hv)) (by omega) (by rw [hdl]; omega))
      rw [hdl] at hr HOK5
      have hrow := setRow_heap _ d cs4 (cs4.toList.take 4 ++ l.drop (64 - nx) ++ cs4.toList.drop (4 + (n - (64 - nx)))).toArray 170 (0, 0) HD4.out
      generalize cs4.toList.take 4 ++ l.drop (64 - nx) ++ cs4.toList.drop (4 + (n - (64 - nx))) = cs5 at hr HOK5 hrow
      clear hdl
      have u5 := Lib.frozen_of_heap hrow 68
      have v5 := (Lib.cell_of_heap hrow 68).trans HOK5.out.n
      have HROW5 := Lib.hid hrow; clear hrow
      go_wp2_with fail
      go_ret2
      exact ⟨rfl, ⟨n - (64 - nx), by omega, _, heap_set HROW5.out, HOK5.out.setN _⟩, ((HK3.out.trans (Kp.setCell _ _ _ (by simp))).trans (Kp.setRow _ d _)).trans (Kp.setCell _ _ _ (by simp))⟩

/-- (*digest).Write of one to three bytes. -/
theorem mdWrite (d y n cap : Nat) (l : List Value) (w : World) (hD : ∃ nx, nx < 64 ∧ Dig d nx w) (hl : AnyBytes l) (hn : l.length = n) (hn1 : 1 ≤ n) (hn3 : n ≤ 3) (hs : ∀ j v, l[j]? = some v → w.cell? ⟨y, j, none⟩ = some v) (hy : y ≠ d) (hcap : n ≤ cap) :
    Calls Tryz.prog 168 #[.pointer (some ⟨d, 0, none⟩), .slice (some ⟨y, 0, none⟩) n cap] w (MdWrote d n w) := by
  obtain ⟨nx, h1, h2⟩ := hD
  by_cases h0 : nx = 0
  · subst h0
    exact mdWrite0 d y n cap l w h2 hl hn hn1 hn3 hs hy
  · exact mdWrite1 d y n cap nx l w h2 (by omega) h1 hl hn hn1 hn3 hs hy hcap
end Go.Proofs.YtemcpcgcnjahjaaGreatDoor
