/-
  The reference's header.
-/
import Derived.Test.YtemcpcgcnjahjaaGreatDoorSpecD
import Derived.Test.YtemcpcgcnjahjaaGreatDoorWFrame
import Derived.Deep.CutBlock
namespace Go.Proofs.YtemcpcgcnjahjaaGreatDoor
open Go.RowKit

/-- Between the calls: a block that the writer does not turn. -/
def SS (B W H : Nat) (o : Obj) (wA : World) (s : List UInt8 × List Bool) (w : World) : Prop := SW B W s w ∧ Fr B [W] wA w ∧ w.heap[H]? = some o

theorem SS.next {B W H : Nat} {hc : Array Value} {T : TypeId} {fz : Nat × Nat} {wA w w' : World} {s s' : List UInt8 × List Bool} (h : SS B W H (.cells hc T fz) wA s w) (hT : T ≠ 5) (hn : H ∉ [W]) (hb : SW B W s' w') (hf : Fr B [W] w w') : SS B W H (.cells hc T fz) wA s' w' :=
  ⟨hb, h.2.1.trans hf, hf.at h.2.2 hn hT⟩
theorem SS.kp {B W H : Nat} {o : Obj} {wA w w' : World} {s : List UInt8 × List Bool} (h : SS B W H o wA s w) (k : Kp [] w w') : SS B W H o wA s w' :=
  ⟨h.1.kp k (by simp), h.2.1.trans ((k.fr h.1.baseLe (by simp)).mono (Nat.le_refl _) (by simp)), k.at h.2.2 (by simp)⟩

theorem Fr.toKp {B : Nat} {S : List Nat} {w w' : World} (h : Fr B S w w') (hB : w.heap.size ≤ B) : Kp [] w w' :=
  ⟨h.os, h.tape, h.output, h.size, fun k hk _ => h.below k (Nat.lt_of_lt_of_le hk hB)⟩

theorem sw_new (w : World) (o : Obj) (B : Nat) (hB : B ≤ w.heap.size) (ho : o = .cells #[.slice none 0 0, .int .i64 0] 158) : SW B w.heap.size ([], []) (w.alloc o) := by
  subst ho
  exact ⟨.slice none 0 0, heap_alloc_new _ _, World.ownsRow_nil _ _ _ _, by simp, hB, by simp only [World.size_alloc]; omega⟩

theorem wrB_eight (o : List UInt8) (a b c d e f g h : Bool) : wrB (o, []) [a, b, c, d, e, f, g, h] = (o ++ [UInt8.ofNat (valB [a, b, c, d, e, f, g, h])], []) := by
  simp [wrB, pushB]
/-- A whole byte, written. -/
theorem wrB_byte (o : List UInt8) (b : UInt8) : wrB (o, []) (bitsN (b.toNat : Int) 8) = (o ++ [b], []) := by
  have hv := valB_bitsN (b.toNat : Int) 8
  have hb := b.toNat_lt
  have hn : valB (bitsN (b.toNat : Int) 8) = b.toNat := by omega
  have h := wrB_eight o ((b.toNat : Int) / 2 ^ 7 % 2 == 1) ((b.toNat : Int) / 2 ^ 6 % 2 == 1) ((b.toNat : Int) / 2 ^ 5 % 2 == 1) ((b.toNat : Int) / 2 ^ 4 % 2 == 1) ((b.toNat : Int) / 2 ^ 3 % 2 == 1) ((b.toNat : Int) / 2 ^ 2 % 2 == 1) ((b.toNat : Int) / 2 ^ 1 % 2 == 1) ((b.toNat : Int) / 2 ^ 0 % 2 == 1)
  change wrB (o, []) (bitsN (b.toNat : Int) 8) = (o ++ [UInt8.ofNat (valB (bitsN (b.toNat : Int) 8))], []) at h
  rw [h, hn, UInt8.ofNat_toNat]
theorem wrB_bytes (o l : List UInt8) : wrB (o, []) (l.flatMap fun b => bitsN (b.toNat : Int) 8) = (o ++ l, []) := by
  induction l generalizing o with
  | nil => simp [wrB_nil]
  | cons b l ih => rw [List.flatMap_cons, wrB_append, wrB_byte, ih]; simp

/-- What the loop over sizes has found ahead of k. -/
def szAt (bs k : Nat) : Int := if bs = 192 ∧ 1 < k then 1 else if bs = 256 ∧ 8 < k then 8 else 6
theorem szAt_succ (bs k : Nat) (h1 : 1 ≤ bs) (h2 : bs ≤ 256) (hk1 : 1 ≤ k) (hk2 : k < 16) : szAt bs (k + 1) = if sizeV k = (bs : Int) then (k : Int) else szAt bs k := by
  rcases (by omega : k = 1 ∨ k = 2 ∨ k = 3 ∨ k = 4 ∨ k = 5 ∨ k = 6 ∨ k = 7 ∨ k = 8 ∨ k = 9 ∨ k = 10 ∨ k = 11 ∨ k = 12 ∨ k = 13 ∨ k = 14 ∨ k = 15) with rfl | rfl | rfl | rfl | rfl | rfl | rfl | rfl | rfl | rfl | rfl | rfl | rfl | rfl | rfl
  all_goals
    simp only [szAt, sizeV]
    simp
    try (by_cases a : bs = 192 <;> by_cases b : bs = 256 <;> simp [a, b] <;> omega)
theorem szAt_end (bs : Nat) : szAt bs 16 = sizeCode bs := by
  unfold szAt sizeCode
  simp

/-- The first number of a rate, and what the loop over rates has found ahead of i. -/
def rate0 (sr : Int) : Int := if sr = 0 then 0 else if sr % 1000 = 0 ∧ sr / 1000 < 256 then 12 else if sr < 65536 then 13 else 14
def rateAt (sr : Int) : Nat → Int
  | 0 => rate0 sr
  | i + 1 => if 0 < i ∧ ratesL.getD i 0 = sr then (i : Int) else rateAt sr i
theorem rateAt_end (sr : Int) (h : RateOk sr) : rateAt sr 12 = rateCode sr := by
  rcases h with rfl | rfl | rfl | rfl | rfl | rfl | rfl | rfl <;> decide
def bpsL : List Int := [0, 8, 12, 0, 16, 20, 24]
def bpsAt (b : Int) : Nat → Int
  | 0 => 0
  | i + 1 => if 0 < bpsL.getD i 0 ∧ bpsL.getD i 0 = b then (i : Int) else bpsAt b i
theorem bpsAt_end (b : Int) (h : BpsOk b) : bpsAt b 7 = bpsCode b := by
  rcases h with rfl | rfl | rfl | rfl | rfl <;> decide

theorem specBits1 (va : Bool) (bs : Nat) (sr : Int) (ch : Nat) (bps : Int) : bitsN 32764 15 ++ bitsN ((va.toNat : Nat) : Int) 1 ++ bitsN (sizeCode bs) 4 ++ bitsN (rateCode sr) 4 ++ bitsN (ch : Int) 4 ++ bitsN (bpsCode bps) 3 ++ bitsN 0 1 = hbits1 (!va) bs sr ch bps := by
  unfold hbits1
  have h1 : bitsN 32764 15 = bitsN 16382 14 ++ bitsN 0 1 := by decide
  have h2 : bitsN ((va.toNat : Nat) : Int) 1 = [!!va] := by cases va <;> rfl
  rw [h1, h2]

theorem ownOf_congr {W : Nat} {w w' : World} (h : w'.heap[W]? = w.heap[W]?) : ownOf W w' = ownOf W w := by unfold ownOf; rw [h]
theorem SW.own_lt {B W : Nat} {s : List UInt8 × List Bool} {w : World} (h : SW B W s w) (g : Nat) (hg : ownOf W w = some g) : g < w.heap.size := by
  obtain ⟨v, h1, h2, _⟩ := h
  rw [ownOf_eq h1] at hg
  rcases h2.2 with ⟨rfl, _⟩ | ⟨g', cap, cur, rfl, _, hg', _⟩
  · simp [Value.ownBlock] at hg
  · simp only [Value.ownBlock, Option.some.injEq] at hg
    subst hg
    exact Lib.lt_of_heap hg'

theorem headB_pos (hf : Bool) (bs : Nat) (sr : Int) (ch : Nat) (bps : Int) (num : Nat) : 4 ≤ (headB hf bs sr ch bps num).length := by
  have h1 := cnt_wrB ([], []) (hbits1 hf bs sr ch bps)
  have h2 : (hbits1 hf bs sr ch bps).length = 32 := by simp [hbits1, bitsN_length]
  have h3 := wrB_whole ([], []) (hbits1 hf bs sr ch bps) (by simp [h2]) (by simp)
  have h4 := cnt_wrB ((wrB ([], []) (hbits1 hf bs sr ch bps)).1 ++ codedB num, []) (hbits2 bs sr)
  have h5 := wrB_rest ((wrB ([], []) (hbits1 hf bs sr ch bps)).1 ++ codedB num, []) (hbits2 bs sr) (by simp)
  unfold cnt at h1 h4
  rw [h3, h2] at h1
  simp only [List.length_nil, List.length_append] at h1 h4
  unfold headB
  omega

theorem sizeCode_cases (bs : Nat) : (sizeCode bs = 1 ∧ sizeTail bs = 0) ∨ (sizeCode bs = 8 ∧ sizeTail bs = 0) ∨ (sizeCode bs = 6 ∧ sizeTail bs = 8) := by
  unfold sizeCode sizeTail
  by_cases h1 : bs = 192
  · simp [h1]
  · by_cases h2 : bs = 256
    · simp [h2]
    · simp [h1, h2]

theorem rate_tails (sr : Int) (h : RateOk sr) : ((rateCode sr == 12) = false ∧ (rateCode sr == 13) = false ∧ (rateCode sr == 14) = false ∧ rateTailN sr = 0) ∨ (rateCode sr = 13 ∧ rateTail sr = sr ∧ rateTailN sr = 16) ∨ (rateCode sr = 14 ∧ rateTail sr = sr / 10 ∧ rateTailN sr = 16 ∧ sr = 655350) := by
  rcases h with rfl | rfl | rfl | rfl | rfl | rfl | rfl | rfl
  · exact .inl (by decide)
  · exact .inl (by decide)
  · exact .inl (by decide)
  · exact .inl (by decide)
  · exact .inl (by decide)
  · exact .inl (by decide)
  · exact .inr (.inl (by decide))
  · exact .inr (.inr (by decide))

/-- A header as plain data. -/
def headV (varies : Bool) (size : Nat) (rate : Int) (assign : Nat) (bits : Int) (num : Nat) : Value := .agg #[.bool varies, .int .i64 size, .int .i64 rate, .int .i64 assign, .int .i64 bits, .int .u64 num]

/-- The bytes of a header with its sum. -/
def headS (hf : Bool) (bs : Nat) (sr : Int) (ch : Nat) (bps : Int) (num : Nat) : List UInt8 := headB hf bs sr ch bps num ++ [UInt8.ofNat (crc8 (headB hf bs sr ch bps num)).toNat]

set_option maxRecDepth 100000 in
set_option maxHeartbeats 8000000 in
/-- spec.WriteHead. -/
theorem specHead (va : Bool) (bs : Nat) (sr : Int) (ch : Nat) (bps : Int) (num : Nat) (w : World) (hbs : bs ≤ 256) (hbs0 : 1 ≤ bs) (hsr : RateOk sr) (hbps : BpsOk bps) (hnum : num < 2048) :
    Calls Tryz.prog 42 #[headV va bs sr ch bps num, .bool false] w (NewBytes (headS (!va) bs sr ch bps num) w) := by
  have HSR := Lib.hid hsr; clear hsr
  have HBP := Lib.hid hbps; clear hbps
  unfold headV
  generalize hO : (Obj.cells #[.bool va, .int .i64 bs, .int .i64 sr, .int .i64 ch, .int .i64 bps, .int .u64 num] 43 (0, 0)) = O
  have hs0 := sw_new (w.alloc O) (.cells #[.slice none 0 0, .int .i64 0] 158) w.heap.size (by simp) rfl
  rw [World.size_alloc] at hs0
  have H0 : Hid (SS w.heap.size (w.heap.size + 1) w.heap.size O ((w.alloc O).alloc (.cells #[.slice none 0 0, .int .i64 0] 158)) ([], []) ((w.alloc O).alloc (.cells #[.slice none 0 0, .int .i64 0] 158))) := ⟨hs0, Fr.refl _ _ _, heap_alloc (heap_alloc_new _ _)⟩
  have hK0 : Hid (Kp [] w ((w.alloc O).alloc (.cells #[.slice none 0 0, .int .i64 0] 158))) := (Kp.alloc _ _ _).trans (Kp.alloc _ _ _)
  clear hs0
  subst hO
  have HN : Hid (w.heap.size ∉ [w.heap.size + 1]) := by
    show ¬ _
    simp
  go_enter Tryz.func42, Tryz.ntmps42
  go_wp2_with fail
  refine (swordI w.heap.size _ 32764 15 _ _ H0.out.1 (by omega) (by omega) (by simp [cnt])).mono ?_
  rintro e w1 ⟨rfl, hb, hf, _⟩
  have H1 := Lib.hid (H0.out.next (by decide) HN.out hb hf); clear hb hf
  have c0 := Lib.cell_of_heap H1.out.2.2 0
  simp only [List.getElem?_toArray, List.getElem?_cons_zero] at c0
  go_upto_if 22 with fail
  go_cut [6] from 23 (fun u wx => u = .int .i64 (va.toNat : Nat) ∧ w1 = wx)
  case first =>
    cases va
    all_goals
      go_wp2_with fail
      go_meet
      case rel => exact ⟨rfl, rfl⟩
  case rest =>
    obtain ⟨rfl, rfl⟩ := hcut
    clear c0
    go_wp2_with fail
    refine (swordI w.heap.size _ _ 1 _ _ H1.out.1 (by omega) (by omega) (by simp only [cnt_wrB, bitsN_length]; simp [cnt])).mono ?_
    rintro e w2 ⟨rfl, hb, hf, _⟩
    have H2 := Lib.hid (H1.out.next (by decide) HN.out hb hf); clear hb hf
    have c1 := Lib.cell_of_heap H2.out.2.2 1
    simp only [List.getElem?_toArray, List.getElem?_cons_zero, List.getElem?_cons_succ] at c1
    have hle : ((bs : Nat) : Int) ≤ 256 := by omega
    go_wp2_with fail
    clear c1
    have H2s := Lib.hid (szAt_end bs)
    go_loopw [7, 8] (fun z k wx => ∃ i q : Nat, 1 ≤ i ∧ i ≤ 16 ∧ k = .int .i64 i ∧ z = .int .i64 (szAt bs i) ∧ w2.drewN q = wx) (fun _ k _ => 16 - (intOf k).toNat)
    case atStart => exact ⟨1, 0, by omega, by omega, rfl, by simp [szAt], rfl⟩
    case round =>
      obtain ⟨i, q, hi1, hi2, rfl, rfl, hq⟩ := hrel
      have c1 : wr.cell? ⟨w.heap.size, 1, none⟩ = some (.int .i64 bs) := by
        have c1 := Lib.cell_of_heap H2.out.2.2 1
        simp only [List.getElem?_toArray, List.getElem?_cons_zero, List.getElem?_cons_succ] at c1
        rw [← hq]; exact c1
      have HQ := Lib.hid hq
      clear hq
      by_cases hi16 : i < 16
      · have HZ := Lib.hid (szAt_succ bs i hbs0 hbs hi1 hi16)
        go_wp2_with fail
        go_quiet ((go_at_call 80; exact Calls.quiet_of_same (specSizeOf i hi1 hi16 _)))
        go_wp2_with fail
        all_goals
          go_roundw
          case rel =>
            rename_i hcmp
            refine ⟨i + 1, q + nq, by omega, by omega, by go_num, ?_, by rw [← HQ.out, World.drewN_drewN]⟩
            rw [HZ.out]
            simp at hcmp
            simp [hcmp]
          case measure => simp [intOf]; omega
      · obtain rfl : i = 16 := by omega
        rw [H2s.out]
        have HKQ : Hid (Kp [] w2 wr) := by
          show Kp [] w2 wr
          rw [← HQ.out]; exact Kp.drewN _ _ _
        have H3 := Lib.hid (H2.out.kp HKQ.out)
        have c2 := Lib.cell_of_heap H3.out.2.2 2
        simp only [List.getElem?_toArray, List.getElem?_cons_zero, List.getElem?_cons_succ] at c2
        clear c1
        go_upto_block 2 with fail
        go_cut [9] from 43 (fun u wx => u = .int .i64 (rate0 sr) ∧ wr = wx)
        case first =>
          have hsr := HSR.out
          rcases hsr with rfl | rfl | rfl | rfl | rfl | rfl | rfl | rfl
          all_goals
            go_wp2_with fail
            go_meet
            case rel => exact ⟨rfl, rfl⟩
        case rest =>
          obtain ⟨rfl, rfl⟩ := hcut
          clear c2
          go_wp2_with fail
          refine (specRates _).mono ?_
          rintro e w4 ⟨rfl, hw4⟩
          have HK4 : Hid (Kp [] wr w4) := by
            show Kp [] wr w4
            rw [hw4]; exact Kp.alloc _ _ _
          have HR4 : Hid (w4.heap[wr.heap.size]? = some (.cells (ratesL.map (Value.int .i64)).toArray 3 (0, 0))) := by
            show _ = _
            rw [hw4]; exact heap_alloc_new _ _
          have H4 := Lib.hid (H3.out.kp HK4.out)
          clear hw4
          go_wp2_with fail
          go_loop [9, 64] (fun r k => ∃ i : Nat, i ≤ 12 ∧ k = .int .i64 i ∧ r = .int .i64 (rateAt sr i)) (fun _ k => 12 - (intOf k).toNat)
          case atStart => exact ⟨0, by omega, rfl, rfl⟩
          case round =>
            obtain ⟨i, hi, rfl, rfl⟩ := hrel
            by_cases hi12 : i < 12
            · have hc := Lib.cell_of_heap HR4.out i
              have hcv : (ratesL.map (Value.int .i64)).toArray[i]? = some (.int .i64 (ratesL.getD i 0)) := by
                rw [List.getElem?_toArray, List.getElem?_map, List.getD_eq_getElem?_getD, List.getElem?_eq_getElem (by simpa [ratesL] using hi12)]
                rfl
              rw [hcv] at hc
              have c2 := Lib.cell_of_heap H4.out.2.2 2
              simp only [List.getElem?_toArray, List.getElem?_cons_zero, List.getElem?_cons_succ] at c2
              have HRA : Hid (rateAt sr (i + 1) = if 0 < i ∧ ratesL.getD i 0 = sr then (i : Int) else rateAt sr i) := rfl
              generalize ratesL.getD i 0 = x at hc HRA
              by_cases hi0 : 0 < i
              · by_cases hx : x = sr
                · have HE : Hid (rateAt sr (i + 1) = (i : Int)) := by show _ = _; rw [HRA.out, if_pos ⟨hi0, hx⟩]
                  have hxb : (x == sr) = true := by simp [hx]
                  clear hx hcv
                  go_wp2_with fail
                  go_round
                  case rel => exact ⟨i + 1, by omega, by go_num, by rw [HE.out]⟩
                  case measure => simp [intOf]; omega
                · have HE : Hid (rateAt sr (i + 1) = rateAt sr i) := by show _ = _; rw [HRA.out, if_neg (fun h => hx h.2)]
                  have hxb : (x == sr) = false := by simp [hx]
                  clear hx hcv
                  go_wp2_with fail
                  go_round
                  case rel => exact ⟨i + 1, by omega, by go_num, by rw [HE.out]⟩
                  case measure => simp [intOf]; omega
              · have HE : Hid (rateAt sr (i + 1) = rateAt sr i) := by show _ = _; rw [HRA.out, if_neg (fun h => hi0 h.1)]
                clear hcv
                go_wp2_with fail
                go_round
                case rel => exact ⟨i + 1, by omega, by go_num, by rw [HE.out]⟩
                case measure => simp [intOf]; omega
            · obtain rfl : i = 12 := by omega
              rw [rateAt_end sr HSR.out]
              go_wp2_with fail
              refine (swordI w.heap.size _ _ 4 _ _ H4.out.1 (by omega) (by omega) (by simp only [cnt_wrB, bitsN_length]; simp [cnt])).mono ?_
              rintro e w5 ⟨rfl, hb, hf, _⟩
              have H5 := Lib.hid (H4.out.next (by decide) HN.out hb hf); clear hb hf
              go_wp2_with fail
              refine (swordI w.heap.size _ _ 4 _ _ H5.out.1 (by omega) (by omega) (by simp only [cnt_wrB, bitsN_length]; simp [cnt])).mono ?_
              rintro e w6 ⟨rfl, hb, hf, _⟩
              have H6 := Lib.hid (H5.out.next (by decide) HN.out hb hf); clear hb hf
              have c3 := Lib.cell_of_heap H6.out.2.2 3
              simp only [List.getElem?_toArray, List.getElem?_cons_zero, List.getElem?_cons_succ] at c3
              go_wp2_with fail
              clear c3
              refine (swordI w.heap.size _ _ 4 _ _ H6.out.1 (by omega) (by omega) (by simp only [cnt_wrB, bitsN_length]; simp [cnt])).mono ?_
              rintro e w7 ⟨rfl, hb, hf, _⟩
              have H7 := Lib.hid (H6.out.next (by decide) HN.out hb hf); clear hb hf
              have H8 := Lib.hid (H7.out.kp (Kp.alloc [] w7 (.cells (bpsL.map (Value.int .i64)).toArray 3)))
              have HB8 : Hid ((w7.alloc (.cells (bpsL.map (Value.int .i64)).toArray 3)).heap[w7.heap.size]? = some (.cells (bpsL.map (Value.int .i64)).toArray 3 (0, 0))) := heap_alloc_new _ _
              go_wp2_with fail
              change Code.wp _ _ _ _ (w7.alloc (.cells (bpsL.map (Value.int .i64)).toArray 3))
              generalize w7.alloc (.cells (bpsL.map (Value.int .i64)).toArray 3) = w8 at H8 HB8 ⊢
              go_loop [12, 95] (fun r k => ∃ i : Nat, i ≤ 7 ∧ k = .int .i64 i ∧ r = .int .i64 (bpsAt bps i)) (fun _ k => 7 - (intOf k).toNat)
              case atStart => exact ⟨0, by omega, rfl, rfl⟩
              case round =>
                obtain ⟨i, hi, rfl, rfl⟩ := hrel
                by_cases hi7 : i < 7
                · have hc := Lib.cell_of_heap HB8.out i
                  have hcv : (bpsL.map (Value.int .i64)).toArray[i]? = some (.int .i64 (bpsL.getD i 0)) := by
                    rw [List.getElem?_toArray, List.getElem?_map, List.getD_eq_getElem?_getD, List.getElem?_eq_getElem (by simpa [bpsL] using hi7)]
                    rfl
                  rw [hcv] at hc
                  have c4 := Lib.cell_of_heap H8.out.2.2 4
                  simp only [List.getElem?_toArray, List.getElem?_cons_zero, List.getElem?_cons_succ] at c4
                  have HRA : Hid (bpsAt bps (i + 1) = if 0 < bpsL.getD i 0 ∧ bpsL.getD i 0 = bps then (i : Int) else bpsAt bps i) := rfl
                  generalize bpsL.getD i 0 = x at hc HRA
                  by_cases hi0 : 0 < x
                  · by_cases hx : x = bps
                    · have HE : Hid (bpsAt bps (i + 1) = (i : Int)) := by show _ = _; rw [HRA.out, if_pos ⟨hi0, hx⟩]
                      have hxb : (x == bps) = true := by simp [hx]
                      clear hx hcv
                      go_wp2_with fail
                      go_round
                      case rel => exact ⟨i + 1, by omega, by go_num, by rw [HE.out]⟩
                      case measure => simp [intOf]; omega
                    · have HE : Hid (bpsAt bps (i + 1) = bpsAt bps i) := by show _ = _; rw [HRA.out, if_neg (fun h => hx h.2)]
                      have hxb : (x == bps) = false := by simp [hx]
                      clear hx hcv
                      go_wp2_with fail
                      go_round
                      case rel => exact ⟨i + 1, by omega, by go_num, by rw [HE.out]⟩
                      case measure => simp [intOf]; omega
                  · have HE : Hid (bpsAt bps (i + 1) = bpsAt bps i) := by show _ = _; rw [HRA.out, if_neg (fun h => hi0 h.1)]
                    clear hcv
                    go_wp2_with fail
                    go_round
                    case rel => exact ⟨i + 1, by omega, by go_num, by rw [HE.out]⟩
                    case measure => simp [intOf]; omega
                · obtain rfl : i = 7 := by omega
                  rw [bpsAt_end bps HBP.out]
                  go_wp2_with fail
                  refine (swordI w.heap.size _ _ 3 _ _ H8.out.1 (by omega) (by omega) (by simp only [cnt_wrB, bitsN_length]; simp [cnt])).mono ?_
                  rintro e w9 ⟨rfl, hb, hf, _⟩
                  have H9 := Lib.hid (H8.out.next (by decide) HN.out hb hf); clear hb hf
                  go_wp2_with fail
                  refine (swordI w.heap.size _ 0 1 _ _ H9.out.1 (by omega) (by omega) (by simp only [cnt_wrB, bitsN_length]; simp [cnt])).mono ?_
                  rintro e wa ⟨rfl, hb, hf, _⟩
                  have HA := H9.out.next (by decide) HN.out hb hf; clear hb hf
                  rw [← wrB_append, ← wrB_append, ← wrB_append, ← wrB_append, ← wrB_append, ← wrB_append, show (15 : Int).toNat = 15 from rfl, show (4 : Int).toNat = 4 from rfl, show (3 : Int).toNat = 3 from rfl, show (1 : Int).toNat = 1 from rfl] at HA
                  simp only [← List.append_assoc] at HA
                  rw [specBits1] at HA
                  rw [wrB_whole' _ _ (by simp [hbits1, bitsN_length]) (by simp)] at HA
                  replace HA := Lib.hid HA
                  clear H9 H8 HB8 H7 H6 H5 H4 HR4 HK4 H3 HKQ HQ H2 H1 H0
                  have c5 := Lib.cell_of_heap HA.out.2.2 5
                  simp only [List.getElem?_toArray, List.getElem?_cons_zero, List.getElem?_cons_succ] at c5
                  go_wp2_with fail
                  clear c5
                  refine (specCoded num hnum _).mono ?_
                  rintro e wb ⟨g, cap, rfl, hown, hk⟩
                  have HBK := Lib.hid hk
                  have HOW := Lib.hid hown
                  have HBB := Lib.hid (HA.out.kp hk)
                  have HLB : Hid ((codedB num).length ≤ 2) := by
                    show _ ≤ _
                    unfold codedB; split <;> simp
                  have HSZ : Hid (wa.heap.size ≤ g ∧ w.heap.size + 1 < wa.heap.size) := by
                    rcases hown.2 with ⟨h, _⟩ | ⟨g', cap', cur, h, hb, _⟩
                    · cases h
                    · cases h
                      exact ⟨hb, HA.out.1.len⟩
                  clear hown hk
                  go_wp2_with fail
                  go_loopw [119] (fun k wx => ∃ i : Nat, i ≤ (codedB num).length ∧ k = .int .i64 i ∧ SS w.heap.size (w.heap.size + 1) w.heap.size (.cells #[.bool va, .int .i64 bs, .int .i64 sr, .int .i64 ch, .int .i64 bps, .int .u64 num] 43 (0, 0)) ((w.alloc (.cells #[.bool va, .int .i64 bs, .int .i64 sr, .int .i64 ch, .int .i64 bps, .int .u64 num] 43 (0, 0))).alloc (.cells #[.slice none 0 0, .int .i64 0] 158)) ((wrB ([], []) (hbits1 (!va) bs sr ch bps)).1 ++ (codedB num).take i, []) wx ∧ wx.heap[g]? = wb.heap[g]? ∧ ownOf (w.heap.size + 1) wx ≠ some g) (fun k _ => (codedB num).length - (intOf k).toNat)
                  case atStart =>
                    refine ⟨0, by omega, rfl, by simpa using HBB.out, rfl, fun ho => ?_⟩
                    rw [ownOf_congr (w := wa) (HBK.out.block _ HSZ.out.2 (by simp))] at ho
                    have := HA.out.1.own_lt g ho
                    have := HSZ.out.1
                    omega
                  case round =>
                    obtain ⟨i, hi, rfl, hss, hg, hno⟩ := hrel
                    have HSS := Lib.hid hss
                    have HG := Lib.hid hg
                    have HNO := Lib.hid hno
                    clear hss hg hno
                    by_cases hil : i < (codedB num).length
                    · have hi2 : i ≤ 2 := by
                        have := HLB.out
                        omega
                      have hcell := HOW.out.cellAt i (by omega)
                      rw [show (Lib.byteCells (codedB num))[i]? = some (.int .u8 (codedB num)[i].toNat) from by simp [Lib.byteCells, hil]] at hcell
                      have hc2 : wr.cell? ⟨g, i, none⟩ = some (.int .u8 (codedB num)[i].toNat) := by
                        rw [← hcell]; exact World.cell?_of_block HG.out
                      have HTK : Hid ((codedB num).take (i + 1) = (codedB num).take i ++ [(codedB num)[i]]) := List.take_succ_eq_append_getElem hil
                      generalize (codedB num)[i] = bb at hc2 HTK
                      have HIL := Lib.hid hil
                      have hbb : (bb.toNat : Int) < 256 := by have := bb.toNat_lt; omega
                      clear hcell
                      go_wp2_with fail
                      refine (swordI w.heap.size _ _ 8 _ _ HSS.out.1 (by omega) (by omega) ?_).mono ?_
                      · have h1 := HLB.out
                        have h2 := cnt_wrB ([], []) (hbits1 (!va) bs sr ch bps)
                        have h3 : (hbits1 (!va) bs sr ch bps).length = 32 := by simp [hbits1, bitsN_length]
                        simp only [cnt, List.length_nil, h3] at h2
                        simp only [cnt, List.length_append, List.length_take, List.length_nil]
                        rw [show (8 : Int).toNat = 8 from rfl]
                        omega
                      rintro e wy ⟨rfl, hb, hf, ho⟩
                      have HX := HSS.out.next (by decide) HN.out hb hf
                      rw [show (8 : Int).toNat = 8 from rfl, wrB_byte, List.append_assoc, ← HTK.out] at HX
                      have HSY := Lib.hid HX
                      have hgs : g < wr.heap.size := by
                        have h1 := (HOW.out.lt g rfl).2
                        have h2 := Array.getElem?_eq_getElem h1
                        have h3 := HG.out
                        rw [h2] at h3
                        exact Lib.lt_of_heap h3
                      have hgW : g ≠ w.heap.size + 1 := by
                        obtain ⟨q1, q2⟩ := HSZ.out
                        omega
                      have HGY : Hid (wy.heap[g]? = wb.heap[g]?) := (ho.block g hgs hgW HNO.out).trans HG.out
                      have HNY : Hid (ownOf (w.heap.size + 1) wy ≠ some g) := by
                        show ¬ _
                        intro h
                        rcases ho.own g h with h1 | h1
                        · exact HNO.out h1
                        · exact Nat.lt_irrefl _ (Nat.lt_of_lt_of_le hgs h1)
                      clear hb hf ho HX hgs
                      go_wp2_with fail
                      go_roundw
                      case rel => exact ⟨i + 1, HIL.out, by go_num, HSY.out, HGY.out, HNY.out⟩
                      case measure =>
                        have := HIL.out
                        simp [intOf]; omega
                    · obtain rfl : i = (codedB num).length := by omega
                      have HO2 : Hid (((wrB ([], []) (hbits1 (!va) bs sr ch bps)).1 ++ codedB num).length ≤ 6) := by
                        have h1 := HLB.out
                        have h2 := cnt_wrB ([], []) (hbits1 (!va) bs sr ch bps)
                        have h3 : (hbits1 (!va) bs sr ch bps).length = 32 := by simp [hbits1, bitsN_length]
                        simp only [cnt, List.length_nil, h3] at h2
                        show List.length _ ≤ _
                        rw [List.length_append]; omega
                      have HE : Hid (headB (!va) bs sr ch bps num = (wrB ((wrB ([], []) (hbits1 (!va) bs sr ch bps)).1 ++ codedB num, []) (hbits2 bs sr)).1) := rfl
                      rw [List.take_length] at HSS
                      generalize (wrB ([], []) (hbits1 (!va) bs sr ch bps)).1 ++ codedB num = o at HSS HO2 HE
                      clear HG HNO HBB HBK HOW HSZ HLB HA
                      have c1 := Lib.cell_of_heap HSS.out.2.2 1
                      simp only [List.getElem?_toArray, List.getElem?_cons_zero, List.getElem?_cons_succ] at c1
                      go_upto_block 9 with fail
                      go_cut [] from 129 (fun wx => SS w.heap.size (w.heap.size + 1) w.heap.size (.cells #[.bool va, .int .i64 bs, .int .i64 sr, .int .i64 ch, .int .i64 bps, .int .u64 num] 43 (0, 0)) ((w.alloc (.cells #[.bool va, .int .i64 bs, .int .i64 sr, .int .i64 ch, .int .i64 bps, .int .u64 num] 43 (0, 0))).alloc (.cells #[.slice none 0 0, .int .i64 0] 158)) (wrB (o, []) (bitsN ((bs : Int) - 1) (sizeTail bs))) wx)
                      case first =>
                        rcases sizeCode_cases bs with ⟨h1, h2⟩ | ⟨h1, h2⟩ | ⟨h1, h2⟩
                        all_goals
                          have hz6 : (sizeCode bs == 6) = (sizeCode bs == 6) := rfl
                          have hz7 : (sizeCode bs == 7) = (sizeCode bs == 7) := rfl
                          conv at hz6 => rhs; rw [h1]
                          conv at hz7 => rhs; rw [h1]
                          simp only [show ((1 : Int) == 6) = false from rfl, show ((1 : Int) == 7) = false from rfl, show ((8 : Int) == 6) = false from rfl, show ((8 : Int) == 7) = false from rfl, show ((6 : Int) == 6) = true from rfl, show ((6 : Int) == 7) = false from rfl] at hz6 hz7
                          have HT := Lib.hid h2
                          clear h1 h2
                        · go_wp2_with fail
                          go_meet
                          case rel => rw [HT.out]; exact HSS.out
                        · go_wp2_with fail
                          go_meet
                          case rel => rw [HT.out]; exact HSS.out
                        · go_wp2_with fail
                          refine (swordI w.heap.size _ _ 8 _ _ HSS.out.1 (by omega) (by omega) (by have := HO2.out; simp only [cnt, List.length_nil]; rw [show (8 : Int).toNat = 8 from rfl]; omega)).mono ?_
                          rintro e wy ⟨rfl, hb, hf, _⟩
                          have HX := Lib.hid (HSS.out.next (by decide) HN.out hb hf)
                          clear hb hf
                          go_wp2_with fail
                          go_meet
                          case rel => rw [HT.out]; exact HX.out
                      case rest =>
                        have HS2 := Lib.hid hcut
                        clear hcut HSS c1
                        have c2 := Lib.cell_of_heap HS2.out.2.2 2
                        simp only [List.getElem?_toArray, List.getElem?_cons_zero, List.getElem?_cons_succ] at c2
                        go_upto_block 10 with fail
                        go_cut [] from 144 (fun wx => SS w.heap.size (w.heap.size + 1) w.heap.size (.cells #[.bool va, .int .i64 bs, .int .i64 sr, .int .i64 ch, .int .i64 bps, .int .u64 num] 43 (0, 0)) ((w.alloc (.cells #[.bool va, .int .i64 bs, .int .i64 sr, .int .i64 ch, .int .i64 bps, .int .u64 num] 43 (0, 0))).alloc (.cells #[.slice none 0 0, .int .i64 0] 158)) (wrB (wrB (o, []) (bitsN ((bs : Int) - 1) (sizeTail bs))) (bitsN (rateTail sr) (rateTailN sr))) wx)
                        case first =>
                          have hcn : cnt (wrB (o, []) (bitsN ((bs : Int) - 1) (sizeTail bs))) ≤ 60 := by
                            have h1 := HO2.out
                            have h2 := sizeTail_cases bs
                            rw [cnt_wrB, bitsN_length]
                            simp only [cnt, List.length_nil]; omega
                          rcases rate_tails sr HSR.out with ⟨h1, h2, h3, h4⟩ | ⟨h1, h2, h3⟩ | ⟨h1, h2, h3, h4⟩
                          · have HT := Lib.hid h4
                            clear h4
                            go_wp2_with fail
                            go_meet
                            case rel => rw [HT.out]; exact HS2.out
                          · have hr1 : (rateCode sr == 12) = false := by rw [h1]; rfl
                            have hr2 : (rateCode sr == 13) = true := by rw [h1]; rfl
                            have HT := Lib.hid (And.intro h2 h3)
                            clear h1 h2 h3
                            go_wp2_with fail
                            refine (swordI w.heap.size _ _ 16 _ _ HS2.out.1 (by omega) (by omega) (by rw [show (16 : Int).toNat = 16 from rfl]; omega)).mono ?_
                            rintro e wy ⟨rfl, hb, hf, _⟩
                            have HX := Lib.hid (HS2.out.next (by decide) HN.out hb hf)
                            clear hb hf
                            go_wp2_with fail
                            go_meet
                            case rel => rw [HT.out.1, HT.out.2]; exact HX.out
                          · have hr1 : (rateCode sr == 12) = false := by rw [h1]; rfl
                            have hr2 : (rateCode sr == 13) = false := by rw [h1]; rfl
                            have hr3 : (rateCode sr == 14) = true := by rw [h1]; rfl
                            have HT := Lib.hid (And.intro h2 h3)
                            have hs4 : sr ≤ 655350 ∧ 0 ≤ sr := by omega
                            obtain ⟨hs5, hs6⟩ := hs4
                            clear h1 h2 h3 h4
                            go_wp2_with fail
                            refine (swordI w.heap.size _ _ 16 _ _ HS2.out.1 (by omega) (by omega) (by rw [show (16 : Int).toNat = 16 from rfl]; omega)).mono ?_
                            rintro e wy ⟨rfl, hb, hf, _⟩
                            have HX := Lib.hid (HS2.out.next (by decide) HN.out hb hf)
                            clear hb hf
                            go_wp2_with fail
                            go_meet
                            case rel => rw [HT.out.1, HT.out.2]; exact HX.out
                        case rest =>
                          rw [← wrB_append] at hcut
                          change SS _ _ _ _ _ (wrB (o, []) (hbits2 bs sr)) _ at hcut
                          rw [wrB_whole' _ _ ?hm (by simp)] at hcut
                          case hm =>
                            rw [hbits2, List.length_append, bitsN_length, bitsN_length]
                            rcases sizeTail_cases bs with z | z <;> rcases rateTail_cases sr with q | q <;> (try obtain ⟨q, q1, q2⟩ := q) <;> simp [z, q]
                          rw [← HE.out] at hcut
                          have HL40 := Lib.hid (headB_length (!va) bs sr ch bps num)
                          have HPOS : Hid (4 ≤ (headB (!va) bs sr ch bps num).length) := headB_pos (!va) bs sr ch bps num
                          have HPO : Hid (headS (!va) bs sr ch bps num = headB (!va) bs sr ch bps num ++ [UInt8.ofNat (crc8 (headB (!va) bs sr ch bps num)).toNat]) := rfl
                          generalize headB (!va) bs sr ch bps num = hd at hcut HL40 HPOS HPO
                          obtain ⟨hsw, hff, hhh⟩ := hcut
                          obtain ⟨vv, hW, hown, _, _, _⟩ := hsw
                          rw [outB_whole _ rfl] at hown
                          have hne : 0 < hd.length := by
                            have h2 := HPOS.out
                            omega
                          obtain ⟨g', cap', rfl, hg1, hg2⟩ := hown.form hne
                          have HW := Lib.hid hW
                          have HO3 := Lib.hid hown
                          have HKW : Hid (Kp [] w wc) := (((hK0.out.fr (Nat.le_refl _) (by simp)).mono (Nat.le_refl _) (by simp)).trans hff).toKp (Nat.le_refl _)
                          have c0 := Lib.cell_of_heap hW 0
                          simp only [List.getElem?_toArray, List.getElem?_cons_zero] at c0
                          have HBA : Hid (BytesAt g' 0 hd wc) := by
                            intro i x hx
                            have h1 := hown.cellAt i (by simpa using (List.getElem?_eq_some_iff.1 hx).1)
                            rw [Nat.zero_add, h1]
                            simp [Lib.byteCells, hx]
                          have hWl := Lib.lt_of_heap hW
                          clear hW hown hff hhh
                          obtain ⟨i0, hi, hz0, hz1, hz2⟩ := info_parts Tryz.info5c
                          have HBQ : Hid (∀ q, BytesAt g' 0 hd (wc.drewN q)) := fun q => HBA.out
                          generalize hcr : (crc8 hd).toNat = cr
                          have hcr2 : cr < 256 := by
                            have := (crc8 hd).isLt
                            omega
                          have HCR := Lib.hid hcr
                          clear hcr
                          have HL41 : Hid (hd.length ≤ 70368744177664) := by
                            have := HL40.out
                            show _ ≤ _
                            omega
                          have HOQ : Hid (∀ q, ((wc.drewN q).alloc (.cells #[.int .u8 cr] 5)).ownsRow w.heap.size 5 1 (.slice (some ⟨g', 0, none⟩) hd.length cap') hd.length (Lib.byteCells hd)) := fun q => HO3.out.alloc _
                          have HNQ : Hid (∀ q (j : Nat) u, ([.int .u8 cr] : List Value)[j]? = some u → ((wc.drewN q).alloc (.cells #[.int .u8 cr] 5)).cell? ((⟨wc.heap.size, 0, none⟩ : Addr).add j) = some u) := fun q => cell_one_new (wc.drewN q) (.int .u8 cr) 5
                          have HSQ : Hid (∀ q, w.heap.size ≤ ((wc.drewN q).alloc (.cells #[.int .u8 cr] 5)).heap.size) := by
                            show ∀ q, _
                            intro q
                            have h1 := hg2
                            have h2 := hg1
                            show _ ≤ (wc.heap.push _).size
                            rw [Array.size_push]
                            omega
                          have hwr : IntKind.u8.wrap (cr : Int) = cr := by rw [IntKind.wrap_u8]; omega
                          have c0d : ∀ q : Nat, (wc.drewN q).cell? ⟨w.heap.size + 1, 0, none⟩ = some (.slice (some ⟨g', 0, none⟩) hd.length cap') := fun _ => c0
                          have c0q : ∀ (q : Nat) (O : Obj), ((wc.drewN q).alloc O).cell? ⟨w.heap.size + 1, 0, none⟩ = some (.slice (some ⟨g', 0, none⟩) hd.length cap') := fun q O => (World.cell?_of_block (w := wc) (Below.heap_alloc (wc.drewN q) O _ hWl)).trans c0
                          go_wp2_with fail
                          go_region_law (first
                            | (go_simp; go_at_call 83; refine (scrc8a g' cap' hd _ (HBQ.out _) HL41.out).mono ?_; rintro e wz ⟨rfl, q, rfl⟩; rw [HCR.out])
                            | (refine step_append_lies _ rfl (.tmp 167) (.tmp 174) 23 rfl w.heap.size 5 i0 (.int .u8 0) 1 1 Tryz.underlying23 hi hz0 hz1 hz2 rfl (by decide) (.slice (some ⟨g', 0, none⟩) hd.length cap') hd.length (Lib.byteCells hd) (by simp [Act.eval]) (HOQ.out _) ⟨wc.heap.size, 0, none⟩ 1 1 [.int .u8 cr] (by simp [Act.eval]) rfl (HNQ.out _) (by simp [Value.oneCell']) (by decide) (by have := HL40.out; unfold maxLen; omega) (by have := HL40.out; omega) (HSQ.out _) _ rfl ?_; intro g2 cap2 w1 hown hgrow hat hlt; have hk : Kp [] w w1 := ((HKW.out.trans (Kp.drewN _ _ _)).trans (Kp.alloc _ _ _)).new (Kp.grown (S := [g']) hgrow (by intro k hk; simpa [Value.ownBlock] using hk.symm)) (by simpa using hg1); have HM := Lib.hid (And.intro hown hk); clear hown hgrow hat hlt hk))
                          all_goals
                            go_wp2_with fail
                            go_ret
                            rw [NewBytes, HPO.out, HCR.out]
                            have e : Lib.byteCells (hd ++ [UInt8.ofNat cr]) = Lib.byteCells hd ++ [.int .u8 cr] := by
                              rw [byteCells_append]
                              simp only [Lib.byteCells, List.map_cons, List.map_nil, UInt8.toNat_ofNat']
                              rw [Nat.mod_eq_of_lt (by omega : cr < 2 ^ 8)]
                            rw [e, List.length_append, List.length_singleton]
                            exact ⟨g2, cap2, rfl, HM.out.1, HM.out.2⟩
end Go.Proofs.YtemcpcgcnjahjaaGreatDoor
