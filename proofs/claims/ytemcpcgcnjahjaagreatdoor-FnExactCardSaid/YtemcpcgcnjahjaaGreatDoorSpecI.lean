/-
  The reference's STREAMINFO.
-/
import Derived.Test.YtemcpcgcnjahjaaGreatDoorSpecE
import Derived.Test.YtemcpcgcnjahjaaGreatDoorImpl
import Derived.Lib.SlBytesConst
import Derived.Lib.AppendZeros
namespace Go.Proofs.YtemcpcgcnjahjaaGreatDoor
open Go.RowKit

/-- append([]T{}, make([]T, n)...), n at least one. -/
theorem run_append_zero_zeros {P : Program} (w : World) (t tn ty e : TypeId) (i : TypeInfo) (z : Value) (k kn : IntKind) (a : Addr) (ht : P.underlying t = some (.slice e)) (htn : P.underlying tn = some (.int kn)) (hi : P.info? e = some i) (hz : i.zero = some z)
    (n : Nat) (h0 : 0 < n) (hs : 0 < i.size) (h63 : (n : Int) ≤ 9223372036854775807) (h48 : n * i.bytes ≤ 281474976710656) :
    (Builtin.append_ #[t, tn] ty #[.slice (some a) 0 0, .int k n]).run P w =
      .ok (.slice (some ⟨w.heap.size, 0, none⟩) n (grownCap w n 0 e)) (w.drew.alloc (.cells (Builtin.zeroCells z.cells n ++ Builtin.zeroCells z.cells (grownCap w n 0 e - n)) e)) := by
  have hn : n ≠ 0 := by omega
  have hw : IntKind.i64.wrap (n : Int) = n := by rw [IntKind.wrap_i64]; omega
  have h63' : ¬ (9223372036854775807 < (n : Int)) := by omega
  have h48' : ¬ (281474976710656 < Builtin.nextslicecap n 0 * i.bytes) := by rw [nextslicecap_zero h0]; omega
  have h48i : ¬ (281474976710656 < (n : Int) * (i.bytes : Int)) := by
    rw [← Int.natCast_mul]
    omega
  have hneg : ¬ ((n : Int) < 0) := by omega
  have hns : ¬ (n * i.size = 0) := Nat.mul_ne_zero hn (by omega)
  simp [Builtin.append_, run_underlying ht, run_underlying htn, sizeOf, typeInfo, zeroValue, hi, hz, asInt, asIntOf, hw, hn, hneg, hns, h63', h48', h48i, Question.forced, Builtin.firstCells, loadCells, loadCellsFrom, Go.newRow, grownCap]

theorem zeros16 : (Builtin.zeroCells (Value.int .u8 0).cells 16).toList = Lib.byteCells (List.replicate 16 0) := by kernel_rfl

/-- The bytes ahead of the frames, last or not. -/
def PInfo.out (i : PInfo) (last : Bool) : List UInt8 := (wrB (sig, []) (i.bitsOf last)).1 ++ List.replicate 16 0

theorem cnt_sig : cnt (sig, []) = 32 := rfl

set_option maxRecDepth 100000 in
set_option maxHeartbeats 8000000 in
/-- spec.WriteInfo. -/
theorem specInfo (i : PInfo) (last : Bool) (w : World) (hi : i.Ok) : Calls Tryz.prog 22 #[i.v, .bool last] w (NewBytes (i.out last) w) := by
  have HI := Lib.hid hi; clear hi
  unfold PInfo.v
  generalize hO : (Obj.cells #[.int .i64 16, .int .i64 4096, .int .i64 0, .int .i64 0, .int .i64 i.rate, .int .i64 i.nch, .int .i64 i.bits, .int .u64 i.smp, .slice none 0 0] 37 (0, 0)) = O
  have hs0 := sw_new (w.alloc O) (.cells #[.slice none 0 0, .int .i64 0] 158) w.heap.size (by simp) rfl
  rw [World.size_alloc] at hs0
  have hA0 : SS w.heap.size (w.heap.size + 1) w.heap.size O ((w.alloc O).alloc (.cells #[.slice none 0 0, .int .i64 0] 158)) ([], []) ((w.alloc O).alloc (.cells #[.slice none 0 0, .int .i64 0] 158)) := ⟨hs0, Fr.refl _ _ _, heap_alloc (heap_alloc_new _ _)⟩
  have H0 := Lib.hid (hA0.kp (Kp.alloc [] _ (.cells #[.int .u8 102, .int .u8 76, .int .u8 97, .int .u8 67] 5 (4, 5))))
  have HQ : Hid ((((w.alloc O).alloc (.cells #[.slice none 0 0, .int .i64 0] 158)).alloc (.cells #[.int .u8 102, .int .u8 76, .int .u8 97, .int .u8 67] 5 (4, 5))).heap[w.heap.size + 1 + 1]? = some (.cells #[.int .u8 102, .int .u8 76, .int .u8 97, .int .u8 67] 5 (4, 5))) := by
    have h := heap_alloc_new ((w.alloc O).alloc (.cells #[.slice none 0 0, .int .i64 0] 158)) (.cells #[.int .u8 102, .int .u8 76, .int .u8 97, .int .u8 67] 5 (4, 5))
    rw [World.size_alloc, World.size_alloc] at h
    exact h
  have HOW : Hid (ownOf (w.heap.size + 1) (((w.alloc O).alloc (.cells #[.slice none 0 0, .int .i64 0] 158)).alloc (.cells #[.int .u8 102, .int .u8 76, .int .u8 97, .int .u8 67] 5 (4, 5))) ≠ some (w.heap.size + 1 + 1)) := by
    obtain ⟨v, h1, h2, _⟩ := H0.out.1
    have h3 := heap_alloc (x := .cells #[.int .u8 102, .int .u8 76, .int .u8 97, .int .u8 67] 5 (4, 5)) (heap_alloc_new (w.alloc O) (.cells #[.slice none 0 0, .int .i64 0] 158))
    rw [World.size_alloc] at h3
    show ¬ _
    rw [ownOf_eq h3]
    simp [Value.ownBlock]
  have hK0 : Hid (Kp [] w ((w.alloc O).alloc (.cells #[.slice none 0 0, .int .i64 0] 158))) := (Kp.alloc _ _ _).trans (Kp.alloc _ _ _)
  clear hs0 hA0
  subst hO
  have HN : Hid (w.heap.size ∉ [w.heap.size + 1]) := by
    show ¬ _
    simp
  have hcv := Lib.run_convert_bytes_const (P := Tryz.prog) ((w.alloc (Obj.cells #[.int .i64 16, .int .i64 4096, .int .i64 0, .int .i64 0, .int .i64 i.rate, .int .i64 i.nch, .int .i64 i.bits, .int .u64 i.smp, .slice none 0 0] 37)).alloc (.cells #[.slice none 0 0, .int .i64 0] 158)) 23 5 #[.int .u8 102, .int .u8 76, .int .u8 97, .int .u8 67] 4 4 Tryz.underlying23 Tryz.underlying5
  rw [World.size_alloc, World.size_alloc] at hcv
  go_enter Tryz.func22, Tryz.ntmps22
  go_wp2_with fail
  clear hcv
  go_loopw [15] (fun k wx => ∃ j : Nat, j ≤ 4 ∧ k = .int .i64 j ∧ SS w.heap.size (w.heap.size + 1) w.heap.size (.cells #[.int .i64 16, .int .i64 4096, .int .i64 0, .int .i64 0, .int .i64 i.rate, .int .i64 i.nch, .int .i64 i.bits, .int .u64 i.smp, .slice none 0 0] 37 (0, 0)) ((w.alloc (.cells #[.int .i64 16, .int .i64 4096, .int .i64 0, .int .i64 0, .int .i64 i.rate, .int .i64 i.nch, .int .i64 i.bits, .int .u64 i.smp, .slice none 0 0] 37 (0, 0))).alloc (.cells #[.slice none 0 0, .int .i64 0] 158)) (sig.take j, []) wx ∧ wx.heap[w.heap.size + 1 + 1]? = some (.cells #[.int .u8 102, .int .u8 76, .int .u8 97, .int .u8 67] 5 (4, 5)) ∧ ownOf (w.heap.size + 1) wx ≠ some (w.heap.size + 1 + 1)) (fun k _ => 4 - (intOf k).toNat)
  case atStart => exact ⟨0, by omega, rfl, H0.out, HQ.out, HOW.out⟩
  case round =>
    clear H0 HQ HOW
    obtain ⟨j, hj, rfl, hss, hg, hno⟩ := hrel
    have HSS := Lib.hid hss
    have HG := Lib.hid hg
    have HNO := Lib.hid hno
    clear hss hg hno
    by_cases hj4 : j < 4
    · have hc := Lib.cell_of_heap HG.out j
      have hcv : (#[.int .u8 102, .int .u8 76, .int .u8 97, .int .u8 67] : Array Value)[j]? = some (.int .u8 ((sig.getD j 0).toNat : Nat)) := by
        rcases (by omega : j = 0 ∨ j = 1 ∨ j = 2 ∨ j = 3) with rfl | rfl | rfl | rfl <;> rfl
      rw [hcv] at hc
      have HTK : Hid (sig.take (j + 1) = sig.take j ++ [sig.getD j 0]) := by
        show _ = _
        rcases (by omega : j = 0 ∨ j = 1 ∨ j = 2 ∨ j = 3) with rfl | rfl | rfl | rfl <;> rfl
      have HSL : Hid ((sig.take j).length ≤ 4) := List.length_take_le' _ _
      generalize sig.getD j 0 = bb at hc HTK
      generalize sig.take j = sj at HSS HTK HSL
      have hbb : (bb.toNat : Int) < 256 := by have := bb.toNat_lt; omega
      have HJ := Lib.hid hj4
      clear hcv
      go_wp2_with fail
      refine (swordI w.heap.size _ _ 8 _ _ HSS.out.1 (by omega) (by omega) (by have := HSL.out; simp only [cnt, List.length_nil]; rw [show (8 : Int).toNat = 8 from rfl]; omega)).mono ?_
      rintro e wy ⟨rfl, hb, hf, ho⟩
      have HX := HSS.out.next (by decide) HN.out hb hf
      rw [show (8 : Int).toNat = 8 from rfl, wrB_byte, ← HTK.out] at HX
      have HSY := Lib.hid HX
      have hgs := Lib.lt_of_heap HG.out
      have HGY : Hid (wy.heap[w.heap.size + 1 + 1]? = some (.cells #[.int .u8 102, .int .u8 76, .int .u8 97, .int .u8 67] 5 (4, 5))) := (ho.block _ hgs (by omega) HNO.out).trans HG.out
      have HNY : Hid (ownOf (w.heap.size + 1) wy ≠ some (w.heap.size + 1 + 1)) := by
        show ¬ _
        intro h
        rcases ho.own _ h with h1 | h1
        · exact HNO.out h1
        · exact Nat.lt_irrefl _ (Nat.lt_of_lt_of_le hgs h1)
      clear hb hf ho HX hgs
      go_wp2_with fail
      go_roundw
      case rel => exact ⟨j + 1, HJ.out, by go_num, HSY.out, HGY.out, HNY.out⟩
      case measure =>
        have := HJ.out
        simp [intOf]; omega
    · obtain rfl : j = 4 := by omega
      have HS : Hid (SS w.heap.size (w.heap.size + 1) w.heap.size (.cells #[.int .i64 16, .int .i64 4096, .int .i64 0, .int .i64 0, .int .i64 i.rate, .int .i64 i.nch, .int .i64 i.bits, .int .u64 i.smp, .slice none 0 0] 37 (0, 0)) ((w.alloc (.cells #[.int .i64 16, .int .i64 4096, .int .i64 0, .int .i64 0, .int .i64 i.rate, .int .i64 i.nch, .int .i64 i.bits, .int .u64 i.smp, .slice none 0 0] 37 (0, 0))).alloc (.cells #[.slice none 0 0, .int .i64 0] 158)) (sig, []) wr) := HSS.out
      clear HSS HG HNO
      go_upto_if 24 with fail
      go_cut [8] from 25 (fun u wx => u = .int .i64 (last.toNat : Nat) ∧ wr = wx)
      case first =>
        cases last
        all_goals
          go_wp2_with fail
          go_meet
          case rel => exact ⟨rfl, rfl⟩
      case rest =>
        obtain ⟨rfl, rfl⟩ := hcut
        have hn1 := HI.out.nch1
        have hn2 := HI.out.bits1
        have hn3 := HI.out.nch8
        have hn4 := HI.out.bits2
        have hn5 := HI.out.smp
        have hn6 := HI.out.rate
        go_wp2_with fail
        refine (swordI w.heap.size _ _ 1 _ _ HS.out.1 (by omega) (by omega) (by simp only [cnt_sig]; simp)).mono ?_
        rintro e w1 ⟨rfl, hb, hf, _⟩
        have H1 := Lib.hid (HS.out.next (by decide) HN.out hb hf); clear hb hf HS
        go_wp2_with fail
        refine (swordI w.heap.size _ _ 7 _ _ H1.out.1 (by omega) (by omega) (by simp only [cnt_wrB, bitsN_length, cnt_sig]; simp)).mono ?_
        rintro e w2 ⟨rfl, hb, hf, _⟩
        have H2 := Lib.hid (H1.out.next (by decide) HN.out hb hf); clear hb hf H1
        go_wp2_with fail
        refine (swordI w.heap.size _ _ 24 _ _ H2.out.1 (by omega) (by omega) (by simp only [cnt_wrB, bitsN_length, cnt_sig]; simp)).mono ?_
        rintro e w3 ⟨rfl, hb, hf, _⟩
        have H3 := Lib.hid (H2.out.next (by decide) HN.out hb hf); clear hb hf H2
        have c := Lib.cell_of_heap H3.out.2.2 0
        simp only [List.getElem?_toArray, List.getElem?_cons_zero] at c
        go_wp2_with fail
        clear c
        refine (swordI w.heap.size _ _ 16 _ _ H3.out.1 (by omega) (by omega) (by simp only [cnt_wrB, bitsN_length, cnt_sig]; simp)).mono ?_
        rintro e w4 ⟨rfl, hb, hf, _⟩
        have H4 := Lib.hid (H3.out.next (by decide) HN.out hb hf); clear hb hf H3
        have c := Lib.cell_of_heap H4.out.2.2 1
        simp only [List.getElem?_toArray, List.getElem?_cons_zero, List.getElem?_cons_succ] at c
        go_wp2_with fail
        clear c
        refine (swordI w.heap.size _ _ 16 _ _ H4.out.1 (by omega) (by omega) (by simp only [cnt_wrB, bitsN_length, cnt_sig]; simp)).mono ?_
        rintro e w5 ⟨rfl, hb, hf, _⟩
        have H5 := Lib.hid (H4.out.next (by decide) HN.out hb hf); clear hb hf H4
        have c := Lib.cell_of_heap H5.out.2.2 2
        simp only [List.getElem?_toArray, List.getElem?_cons_zero, List.getElem?_cons_succ] at c
        go_wp2_with fail
        clear c
        refine (swordI w.heap.size _ _ 24 _ _ H5.out.1 (by omega) (by omega) (by simp only [cnt_wrB, bitsN_length, cnt_sig]; simp)).mono ?_
        rintro e w6 ⟨rfl, hb, hf, _⟩
        have H6 := Lib.hid (H5.out.next (by decide) HN.out hb hf); clear hb hf H5
        have c := Lib.cell_of_heap H6.out.2.2 3
        simp only [List.getElem?_toArray, List.getElem?_cons_zero, List.getElem?_cons_succ] at c
        go_wp2_with fail
        clear c
        refine (swordI w.heap.size _ _ 24 _ _ H6.out.1 (by omega) (by omega) (by simp only [cnt_wrB, bitsN_length, cnt_sig]; simp)).mono ?_
        rintro e w7 ⟨rfl, hb, hf, _⟩
        have H7 := Lib.hid (H6.out.next (by decide) HN.out hb hf); clear hb hf H6
        have c := Lib.cell_of_heap H7.out.2.2 4
        simp only [List.getElem?_toArray, List.getElem?_cons_zero, List.getElem?_cons_succ] at c
        go_wp2_with fail
        clear c
        refine (swordI w.heap.size _ _ 20 _ _ H7.out.1 (by omega) (by omega) (by simp only [cnt_wrB, bitsN_length, cnt_sig]; simp)).mono ?_
        rintro e w8 ⟨rfl, hb, hf, _⟩
        have H8 := Lib.hid (H7.out.next (by decide) HN.out hb hf); clear hb hf H7
        have c := Lib.cell_of_heap H8.out.2.2 5
        simp only [List.getElem?_toArray, List.getElem?_cons_zero, List.getElem?_cons_succ] at c
        go_wp2_with fail
        clear c
        refine (swordI w.heap.size _ _ 3 _ _ H8.out.1 (by omega) (by omega) (by simp only [cnt_wrB, bitsN_length, cnt_sig]; simp)).mono ?_
        rintro e w9 ⟨rfl, hb, hf, _⟩
        have H9 := Lib.hid (H8.out.next (by decide) HN.out hb hf); clear hb hf H8
        have c := Lib.cell_of_heap H9.out.2.2 6
        simp only [List.getElem?_toArray, List.getElem?_cons_zero, List.getElem?_cons_succ] at c
        go_wp2_with fail
        clear c
        refine (swordI w.heap.size _ _ 5 _ _ H9.out.1 (by omega) (by omega) (by simp only [cnt_wrB, bitsN_length, cnt_sig]; simp)).mono ?_
        rintro e w10 ⟨rfl, hb, hf, _⟩
        have H10 := Lib.hid (H9.out.next (by decide) HN.out hb hf); clear hb hf H9
        have c := Lib.cell_of_heap H10.out.2.2 7
        simp only [List.getElem?_toArray, List.getElem?_cons_zero, List.getElem?_cons_succ] at c
        go_wp2_with fail
        clear c
        refine (swordI w.heap.size _ _ 36 _ _ H10.out.1 (by omega) (by omega) (by simp only [cnt_wrB, bitsN_length, cnt_sig]; simp)).mono ?_
        rintro e w11 ⟨rfl, hb, hf, _⟩
        have H11 := Lib.hid (H10.out.next (by decide) HN.out hb hf); clear hb hf H10
        have hS : SS w.heap.size (w.heap.size + 1) w.heap.size (.cells #[.int .i64 16, .int .i64 4096, .int .i64 0, .int .i64 0, .int .i64 i.rate, .int .i64 i.nch, .int .i64 i.bits, .int .u64 i.smp, .slice none 0 0] 37 (0, 0)) ((w.alloc (.cells #[.int .i64 16, .int .i64 4096, .int .i64 0, .int .i64 0, .int .i64 i.rate, .int .i64 i.nch, .int .i64 i.bits, .int .u64 i.smp, .slice none 0 0] 37 (0, 0))).alloc (.cells #[.slice none 0 0, .int .i64 0] 158)) ((wrB (sig, []) (i.bitsOf last)).1, []) w11 := by
          have h := H11.out
          have e : i.bitsOf last = bitsN ((last.toNat : Nat) : Int) 1 ++ bitsN 0 7 ++ bitsN 34 24 ++ bitsN 16 16 ++ bitsN 4096 16 ++ bitsN 0 24 ++ bitsN 0 24 ++ bitsN i.rate 20 ++ bitsN ((i.nch : Int) - 1) 3 ++ bitsN ((i.bits : Int) - 1) 5 ++ bitsN i.smp 36 := by
            have e1 : bitsN ((last.toNat : Nat) : Int) 1 = [last] := by cases last <;> rfl
            rw [e1]; rfl
          rw [← wrB_whole' _ _ (by rw [i.bitsOf_length]; rfl) (by simp), e]
          simp only [wrB_append]
          exact h
        clear H11
        have HOL : Hid ((wrB (sig, []) (i.bitsOf last)).1.length = 26) := by
          have h1 := cnt_wrB (sig, []) (i.bitsOf last)
          have h2 := wrB_whole (sig, []) (i.bitsOf last) (by rw [i.bitsOf_length]; rfl) (by simp)
          rw [i.bitsOf_length, cnt_sig] at h1
          show _ = _
          unfold cnt at h1
          rw [h2, List.length_nil] at h1
          omega
        have HPO : Hid (i.out last = (wrB (sig, []) (i.bitsOf last)).1 ++ List.replicate 16 0) := rfl
        generalize (wrB (sig, []) (i.bitsOf last)).1 = o at hS HOL HPO
        obtain ⟨hsw, hff, hhh⟩ := hS
        obtain ⟨vv, hW, hown, _, _, _⟩ := hsw
        rw [outB_whole _ rfl] at hown
        obtain ⟨g', cap', rfl, hg1, hg2⟩ := hown.form (by have := HOL.out; show 0 < o.length; omega)
        have HW := Lib.hid hW
        have HO3 := Lib.hid hown
        have HKW : Hid (Kp [] w w11) := (((hK0.out.fr (Nat.le_refl _) (by simp)).mono (Nat.le_refl _) (by simp)).trans hff).toKp (Nat.le_refl _)
        have c0 := Lib.cell_of_heap hW 0
        simp only [List.getElem?_toArray, List.getElem?_cons_zero] at c0
        have c8 := Lib.cell_of_heap hhh 8
        simp only [List.getElem?_toArray, List.getElem?_cons_zero, List.getElem?_cons_succ] at c8
        have hWl := Lib.lt_of_heap hW
        have hHl := Lib.lt_of_heap hhh
        clear hW hown hff hhh
        obtain ⟨i0, hi, hz0, hz1, hz2⟩ := info_parts Tryz.info5c
        have hz := run_append_zero_zeros (P := Tryz.prog) (w11.alloc (.cells #[] 5)) 23 3 23 5 i0 (.int .u8 0) .i64 .i64 ⟨w11.heap.size, 0, none⟩ Tryz.underlying23 Tryz.underlying3 hi hz0 16 (by omega) (by rw [hz1]; omega) (by omega) (by rw [hz2]; omega)
        have hgc := grownCap_ge (w11.alloc (.cells #[] 5)) 16 0 5
        generalize grownCap (w11.alloc (.cells #[] 5)) 16 0 5 = cap2 at hz hgc
        have hZ : (Builtin.zeroCells (Value.int .u8 0).cells 16 ++ Builtin.zeroCells (Value.int .u8 0).cells (cap2 - 16)).toList = Lib.byteCells (List.replicate 16 0) ++ (Builtin.zeroCells (Value.int .u8 0).cells (cap2 - 16)).toList := by
          rw [Array.toList_append, zeros16]
        generalize Builtin.zeroCells (Value.int .u8 0).cells 16 ++ Builtin.zeroCells (Value.int .u8 0).cells (cap2 - 16) = Z at hz hZ
        rw [World.size_alloc] at hz
        have hzb : ((w11.alloc (.cells #[] 5)).alloc (.cells Z 5)).heap[w11.heap.size + 1]? = some (.cells Z 5 (0, 0)) := by
          have h := heap_alloc_new (w11.alloc (.cells #[] 5)) (.cells Z 5)
          rw [World.size_alloc] at h
          exact h
        have HOA : Hid (((w11.alloc (.cells #[] 5)).alloc (.cells Z 5)).drew.ownsRow w.heap.size 5 1 (.slice (some ⟨g', 0, none⟩) o.length cap') o.length (Lib.byteCells o)) := (HO3.out.alloc _).alloc _
        have HNW : Hid (∀ (j : Nat) u, (Lib.byteCells (List.replicate 16 0))[j]? = some u → ((w11.alloc (.cells #[] 5)).alloc (.cells Z 5)).drew.cell? ((⟨w11.heap.size + 1, 0, none⟩ : Addr).add j) = some u) := by
          show ∀ (j : Nat) u, _
          intro j u hj
          rw [Lib.addr_add, Nat.zero_add]
          show ((w11.alloc (.cells #[] 5)).alloc (.cells Z 5)).cell? _ = _
          rw [Lib.cell_of_heap hzb, ← Array.getElem?_toList, hZ]
          rw [List.getElem?_append_left (by rw [byteCells_length, List.length_replicate]; have := (List.getElem?_eq_some_iff.1 hj).1; simpa [byteCells_length] using this)]
          exact hj
        have HSZ : Hid (w.heap.size ≤ ((w11.alloc (.cells #[] 5)).alloc (.cells Z 5)).drew.heap.size) := by
          show w.heap.size ≤ ((w11.alloc (.cells #[] 5)).alloc (.cells Z 5)).heap.size
          simp only [World.size_alloc]; omega
        have HZ1 : Hid (∀ u ∈ Lib.byteCells (List.replicate 16 0), u.oneCell' = true) := by
          show ∀ u ∈ _, _
          intro u hu
          simp only [Lib.byteCells, List.mem_map] at hu
          obtain ⟨x, _, rfl⟩ := hu
          rfl
        have HKN : Hid (Kp [] w ((w11.alloc (.cells #[] 5)).alloc (.cells Z 5)).drew) := ((HKW.out.trans (Kp.alloc _ _ _)).trans (Kp.alloc _ _ _)).trans (Kp.drew _ _)
        have HZL : Hid ((Lib.byteCells (List.replicate 16 0)).length = 16 * 1) := rfl
        have HZS : Hid (Lib.byteCells (List.replicate 16 0) = Lib.byteCells (List.replicate 16 0)) := rfl
        generalize hzs : Lib.byteCells (List.replicate 16 0) = zs at hZ HNW HZ1 HZL
        replace HZS := Lib.hid hzs
        clear hzs
        clear hZ hzb hn1 hn2 hn3 hn4 hn5 hn6
        go_wp2_with (at_builtin; refine Lib.wpList_append_run _ rfl _ _ 23 3 rfl _ _ rfl rfl _ _ hz ?_)
        have HK12 : Hid (Kp [] w11 ((w11.alloc (.cells #[] 5)).alloc (.cells Z 5)).drew) := ((Kp.alloc _ _ _).trans (Kp.alloc _ _ _)).trans (Kp.drew _ _)
        clear c0 c8 hz
        generalize ((w11.alloc (.cells #[] 5)).alloc (.cells Z 5)).drew = w12 at HOA HNW HSZ HKN HK12 ⊢
        have c0 := Lib.cell_of_heap (HK12.out.at HW.out (by simp)) 0
        simp only [List.getElem?_toArray, List.getElem?_cons_zero] at c0
        have hgc2 : (16 : Int) ≤ (cap2 : Int) := by omega
        go_region_law (refine step_append_lies _ rfl (.tmp 75) (.tmp 77) 23 rfl w.heap.size 5 i0 (.int .u8 0) 1 1 Tryz.underlying23 hi hz0 hz1 hz2 rfl (by decide) (.slice (some ⟨g', 0, none⟩) o.length cap') o.length (Lib.byteCells o) (by simp [Act.eval]) HOA.out ⟨w11.heap.size + 1, 0, none⟩ 16 cap2 zs (by simp [Act.eval]) HZL.out HNW.out HZ1.out (by decide) (by have := HOL.out; unfold maxLen; omega) (by have := HOL.out; omega) HSZ.out _ rfl ?_; intro g2 cap3 w13 hown hgrow hat hlt; have HM := Lib.hid (And.intro hown hgrow); clear hown hgrow hat hlt)
        all_goals
          go_wp2_with fail
          go_ret
          have hk : Kp [] w w13 := (HKN.out.trans (Kp.drew _ _)).new (Kp.grown (S := [g']) HM.out.2 (by intro k hk; simpa [Value.ownBlock] using hk.symm)) (by simpa using hg1)
          rw [NewBytes, HPO.out, byteCells_append, HZS.out, List.length_append, List.length_replicate]
          exact ⟨g2, cap3, rfl, HM.out.1, hk⟩
end Go.Proofs.YtemcpcgcnjahjaaGreatDoor
