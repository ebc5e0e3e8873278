/-
  STREAMINFO, written.
-/
import Derived.Test.YtemcpcgcnjahjaaGreatDoorSub
import Derived.Test.YtemcpcgcnjahjaaGreatDoorHead
namespace Go.Proofs.YtemcpcgcnjahjaaGreatDoor
open Go.RowKit

set_option maxRecDepth 100000 in
set_option maxHeartbeats 4000000 in
/-- encodeBlockHeader. -/
theorem encBlockHeader {B : Nat} (σ : Snk B) (W H : Nat) (last : Bool) (s : List UInt8 × List Bool) (w : World) (h : BW σ W s w) (hH : w.heap[H]? = some (.cells #[.int .u8 0, .int .i64 34, .bool last] 177 (0, 0))) (hn : H ∉ W :: σ.S) (hl : cnt s + 32 ≤ 70368744177664) :
    Calls Tryz.prog 52 #[.pointer (some ⟨W, 0, none⟩), .pointer (some ⟨H, 0, none⟩)] w (Wrote σ W s ([last] ++ bitsN 0 7 ++ bitsN 34 24) w) := by
  have HL := Lib.hid hl; clear hl
  have HN := Lib.hid hn; clear hn
  have H1 : Hid (BS σ W H (.cells #[.int .u8 0, .int .i64 34, .bool last] 177 (0, 0)) w s w) := ⟨h, Fr.refl _ _ _, hH⟩
  clear h hH
  have c2 := Lib.cell_of_heap H1.out.2.2 2
  simp only [List.getElem?_toArray, List.getElem?_cons_zero, List.getElem?_cons_succ] at c2
  go_enter Tryz.func52, Tryz.ntmps52
  go_wp2_with fail
  refine (wbool σ W last s _ H1.out.1 (by have := HL.out; omega)).mono ?_
  rintro e w1 ⟨rfl, hb, hf⟩
  have H2 := Lib.hid (H1.out.next (by decide) HN.out hb hf); clear hb hf c2
  have c0 := Lib.cell_of_heap H2.out.2.2 0
  simp only [List.getElem?_toArray, List.getElem?_cons_zero] at c0
  go_wp2_with fail
  refine (wbits σ W 0 7 _ _ H2.out.1 (by omega) (by omega) (by omega) (by omega) (by have := HL.out; rw [cnt_wrB]; simp; omega)).mono ?_
  rintro e w2 ⟨rfl, hb, hf⟩
  have H3 := Lib.hid (H2.out.next (by decide) HN.out hb hf); clear hb hf c0
  have c1 := Lib.cell_of_heap H3.out.2.2 1
  simp only [List.getElem?_toArray, List.getElem?_cons_zero, List.getElem?_cons_succ] at c1
  go_wp2_with fail
  refine (wbits σ W 34 24 _ _ H3.out.1 (by omega) (by omega) (by omega) (by omega) (by have := HL.out; rw [cnt_wrB, cnt_wrB, bitsN_length]; simp; omega)).mono ?_
  rintro e w3 ⟨rfl, hb, hf⟩
  have H4 := Lib.hid (H3.out.next (by decide) HN.out hb hf); clear hb hf c1
  go_wp2_with fail
  go_ret
  refine ⟨rfl, ?_, H4.out.2.1⟩
  show BW σ W (wrB s ([last] ++ (bitsN 0 7 ++ bitsN 34 24))) w3
  rw [wrB_append, wrB_append]
  exact H4.out.1

/-- What STREAMINFO tells. -/
structure PInfo where
  rate : Nat
  nch : Nat
  bits : Nat
  smp : Nat

structure PInfo.Ok (i : PInfo) : Prop where
  rate : i.rate < 1048576
  nch1 : 1 ≤ i.nch
  nch8 : i.nch ≤ 8
  bits1 : 1 ≤ i.bits
  bits2 : i.bits ≤ 32
  smp : i.smp < 4294967296

/-- The cells of the package's STREAMINFO. -/
def PInfo.cells (i : PInfo) : Array Value := #[.int .u16 16, .int .u16 4096, .int .u32 0, .int .u32 0, .int .u32 i.rate, .int .u8 i.nch, .int .u8 i.bits, .int .u64 i.smp,
  .int .u8 0, .int .u8 0, .int .u8 0, .int .u8 0, .int .u8 0, .int .u8 0, .int .u8 0, .int .u8 0, .int .u8 0, .int .u8 0, .int .u8 0, .int .u8 0, .int .u8 0, .int .u8 0, .int .u8 0, .int .u8 0]
def PInfo.bitsOf (i : PInfo) (last : Bool) : List Bool :=
  [last] ++ bitsN 0 7 ++ bitsN 34 24 ++ bitsN 16 16 ++ bitsN 4096 16 ++ bitsN 0 24 ++ bitsN 0 24 ++ bitsN i.rate 20 ++ bitsN ((i.nch : Int) - 1) 3 ++ bitsN ((i.bits : Int) - 1) 5 ++ bitsN i.smp 36

theorem PInfo.bitsOf_length (i : PInfo) (last : Bool) : (i.bitsOf last).length = 176 := by simp [PInfo.bitsOf, bitsN_length]

set_option maxRecDepth 100000 in
set_option maxHeartbeats 8000000 in
/-- encodeStreamInfo. -/
theorem encInfo {B : Nat} (σ : Snk B) (W IN : Nat) (i : PInfo) (last : Bool) (o : List UInt8) (w : World) (hi : i.Ok) (h : BW σ W (o, []) w) (hI : w.heap[IN]? = some (.cells i.cells 122 (0, 0))) (hn : IN ∉ W :: σ.S) (hl : o.length ≤ 1000000) :
    Calls Tryz.prog 27 #[.pointer (some ⟨W, 0, none⟩), .pointer (some ⟨IN, 0, none⟩), .bool last] w fun e w' => e = .returned .nilIface ∧ BW σ W ((wrB (o, []) (i.bitsOf last)).1 ++ List.replicate 16 0, []) w' ∧ Fr B (W :: σ.S) w w' := by
  have HL : Hid (cnt (o, []) ≤ 8000000) := by
    show _ ≤ _
    simp only [cnt, List.length_nil]; omega
  clear hl
  have HN := Lib.hid hn; clear hn
  have hlt := Lib.lt_of_heap hI
  have HK := Lib.hid hi; clear hi
  have H1 := Lib.hid (BS.start (.cells #[.int .u8 0, .int .i64 34, .bool last] 177 (0, 0)) h)
  have HNH := Lib.hid h.new
  have H0 : Hid (BS σ W IN (.cells i.cells 122 (0, 0)) w (o, []) (w.alloc (.cells #[.int .u8 0, .int .i64 34, .bool last] 177))) := ⟨H1.out.1, H1.out.2.1, heap_alloc hI⟩
  clear h hI
  have hr := HK.out.rate
  have hc1 := HK.out.nch1
  have hc8 := HK.out.nch8
  have hb1 := HK.out.bits1
  have hb2 := HK.out.bits2
  have hsm := HK.out.smp
  go_enter Tryz.func27, Tryz.ntmps27
  go_wp2_with fail
  refine (encBlockHeader σ W _ last _ _ H1.out.1 H1.out.2.2 HNH.out (by have := HL.out; omega)).mono ?_
  rintro e w1 ⟨rfl, hb, hf⟩
  have H2 := Lib.hid (H0.out.next (by decide) HN.out hb hf); clear hb hf H0 H1
  have c := Lib.cell_of_heap H2.out.2.2 0
  simp only [PInfo.cells, List.getElem?_toArray, List.getElem?_cons_zero] at c
  go_wp2_with fail
  clear c
  refine (wbits σ W 16 16 _ _ H2.out.1 (by omega) (by omega) (by omega) (by omega) (by have := HL.out; simp only [cnt_wrB, bitsN_length, List.length_append, List.length_cons, List.length_nil]; omega)).mono ?_
  rintro e w2 ⟨rfl, hb, hf⟩
  have H3 := Lib.hid (H2.out.next (by decide) HN.out hb hf); clear hb hf H2
  have c := Lib.cell_of_heap H3.out.2.2 1
  simp only [PInfo.cells, List.getElem?_toArray, List.getElem?_cons_zero, List.getElem?_cons_succ] at c
  go_wp2_with fail
  clear c
  refine (wbits σ W 4096 16 _ _ H3.out.1 (by omega) (by omega) (by omega) (by omega) (by have := HL.out; simp only [cnt_wrB, bitsN_length, List.length_append, List.length_cons, List.length_nil]; omega)).mono ?_
  rintro e w3 ⟨rfl, hb, hf⟩
  have H4 := Lib.hid (H3.out.next (by decide) HN.out hb hf); clear hb hf H3
  have c := Lib.cell_of_heap H4.out.2.2 2
  simp only [PInfo.cells, List.getElem?_toArray, List.getElem?_cons_zero, List.getElem?_cons_succ] at c
  go_wp2_with fail
  clear c
  refine (wbits σ W 0 24 _ _ H4.out.1 (by omega) (by omega) (by omega) (by omega) (by have := HL.out; simp only [cnt_wrB, bitsN_length, List.length_append, List.length_cons, List.length_nil]; omega)).mono ?_
  rintro e w4 ⟨rfl, hb, hf⟩
  have H5 := Lib.hid (H4.out.next (by decide) HN.out hb hf); clear hb hf H4
  have c := Lib.cell_of_heap H5.out.2.2 3
  simp only [PInfo.cells, List.getElem?_toArray, List.getElem?_cons_zero, List.getElem?_cons_succ] at c
  go_wp2_with fail
  clear c
  refine (wbits σ W 0 24 _ _ H5.out.1 (by omega) (by omega) (by omega) (by omega) (by have := HL.out; simp only [cnt_wrB, bitsN_length, List.length_append, List.length_cons, List.length_nil]; omega)).mono ?_
  rintro e w5 ⟨rfl, hb, hf⟩
  have H6 := Lib.hid (H5.out.next (by decide) HN.out hb hf); clear hb hf H5
  have c := Lib.cell_of_heap H6.out.2.2 4
  simp only [PInfo.cells, List.getElem?_toArray, List.getElem?_cons_zero, List.getElem?_cons_succ] at c
  go_wp2_with fail
  clear c
  refine (wbits σ W (i.rate : Int) 20 _ _ H6.out.1 (by omega) (by omega) (by omega) (by omega) (by have := HL.out; simp only [cnt_wrB, bitsN_length, List.length_append, List.length_cons, List.length_nil]; omega)).mono ?_
  rintro e w6 ⟨rfl, hb, hf⟩
  have H7 := Lib.hid (H6.out.next (by decide) HN.out hb hf); clear hb hf H6
  have c := Lib.cell_of_heap H7.out.2.2 5
  simp only [PInfo.cells, List.getElem?_toArray, List.getElem?_cons_zero, List.getElem?_cons_succ] at c
  go_wp2_with fail
  clear c
  refine (wbits σ W ((i.nch : Int) - 1) 3 _ _ H7.out.1 (by omega) (by omega) (by omega) (by omega) (by have := HL.out; simp only [cnt_wrB, bitsN_length, List.length_append, List.length_cons, List.length_nil]; omega)).mono ?_
  rintro e w7 ⟨rfl, hb, hf⟩
  have H8 := Lib.hid (H7.out.next (by decide) HN.out hb hf); clear hb hf H7
  have c := Lib.cell_of_heap H8.out.2.2 6
  simp only [PInfo.cells, List.getElem?_toArray, List.getElem?_cons_zero, List.getElem?_cons_succ] at c
  go_wp2_with fail
  clear c
  refine (wbits σ W ((i.bits : Int) - 1) 5 _ _ H8.out.1 (by omega) (by omega) (by omega) (by omega) (by have := HL.out; simp only [cnt_wrB, bitsN_length, List.length_append, List.length_cons, List.length_nil]; omega)).mono ?_
  rintro e w8 ⟨rfl, hb, hf⟩
  have H9 := Lib.hid (H8.out.next (by decide) HN.out hb hf); clear hb hf H8
  have c := Lib.cell_of_heap H9.out.2.2 7
  simp only [PInfo.cells, List.getElem?_toArray, List.getElem?_cons_zero, List.getElem?_cons_succ] at c
  go_wp2_with fail
  clear c
  refine (wbits σ W (i.smp : Int) 36 _ _ H9.out.1 (by omega) (by omega) (by omega) (by omega) (by have := HL.out; simp only [cnt_wrB, bitsN_length, List.length_append, List.length_cons, List.length_nil]; omega)).mono ?_
  rintro e w9 ⟨rfl, hb, hf⟩
  have H10 := Lib.hid (H9.out.next (by decide) HN.out hb hf); clear hb hf H9
  have HX := H10.out
  clear H10
  simp only [← wrB_append] at HX
  change BS σ W IN _ w (wrB (o, []) (i.bitsOf last)) _ at HX
  rw [wrB_whole' (o, []) (i.bitsOf last) (by rw [PInfo.bitsOf_length]; simp) (by simp)] at HX
  have HY := Lib.hid HX
  clear HX
  have HLB : Hid ((wrB (o, []) (i.bitsOf last)).1.length + 16 ≤ 70368744177664) := by
    have h1 := wrB_len (o, []) (i.bitsOf last)
    have h2 := HL.out
    rw [PInfo.bitsOf_length] at h1
    simp only [cnt, List.length_nil] at h1 h2
    show _ ≤ _; omega
  have HSR : Hid (∀ (j : Nat) v, (Lib.byteCells (List.replicate 16 0))[j]? = some v → w9.cell? ⟨IN, 8 + j, none⟩ = some v) := by
    show ∀ (j : Nat) v, _
    intro j v hj
    rw [Lib.cell_of_heap HY.out.2.2]
    have hj16 : j < 16 := by
      rcases Nat.lt_or_ge j 16 with h | h
      · exact h
      · rw [List.getElem?_eq_none (by simpa [Lib.byteCells] using h)] at hj; cases hj
    have e : (Lib.byteCells (List.replicate 16 0))[j]? = some (.int .u8 0) := by
      rw [show Lib.byteCells (List.replicate 16 0) = List.replicate 16 (.int .u8 0) from rfl, List.getElem?_replicate, if_pos hj16]
    rw [e] at hj
    cases hj
    match j, hj16 with
    | 0, _ | 1, _ | 2, _ | 3, _ | 4, _ | 5, _ | 6, _ | 7, _ | 8, _ | 9, _ | 10, _ | 11, _ | 12, _ | 13, _ | 14, _ | 15, _ => rfl
  go_wp2_with fail
  refine (wwrite σ W _ IN 8 16 16 (List.replicate 16 0) _ HY.out.1 (by simp) (fun hm => HN.out (List.mem_cons_of_mem _ hm)) HSR.out HLB.out).mono ?_
  rintro e wz ⟨rfl, hb, hf⟩
  have HB := Lib.hid hb
  have HF := Lib.hid (HY.out.2.1.trans hf)
  clear hb hf
  go_wp2_with fail
  go_ret
  exact ⟨rfl, HB.out, HF.out⟩
end Go.Proofs.YtemcpcgcnjahjaaGreatDoor
