/-
  The reference's header, plain: some bytes.
-/
import Derived.Test.YtemcpcgcnjahjaaGreatDoorGenB
import Derived.Test.YtemcpcgcnjahjaaGreatDoorSpecE
namespace Go.Proofs.YtemcpcgcnjahjaaGreatDoor
open Go.RowKit

/-- The writer, whatever it holds. -/
def SXP (n : Nat) (B W H : Nat) (O : Obj) (wA : World) (s : List UInt8 × List Bool) (w : World) : Prop := cnt s ≤ n ∧ 15 ≤ cnt s ∧ SS B W H O wA s w
def SX (n : Nat) (B W H : Nat) (O : Obj) (wA : World) (w : World) : Prop := ∃ s, SXP n B W H O wA s w
theorem SX.word {n B W H : Nat} {hc : Array Value} {T : TypeId} {fz : Nat × Nat} {wA w w' : World} {s : List UInt8 × List Bool} {v : Int} {m : Nat} (h : SXP n B W H (.cells hc T fz) wA s w) (hn : H ∉ [W]) (hT : T ≠ 5) (hb : SW B W (wrB s (bitsN v m)) w') (hf : Fr B [W] w w') : SX (n + m) B W H (.cells hc T fz) wA w' :=
  ⟨_, by rw [cnt_wrB, bitsN_length]; have := h.1; omega, by rw [cnt_wrB, bitsN_length]; have := h.2.1; omega, h.2.2.next hT hn hb hf⟩
theorem SX.mono {n m B W H : Nat} {O : Obj} {wA w : World} (h : SX n B W H O wA w) (hm : n ≤ m) : SX m B W H O wA w := by
  obtain ⟨s, h1, h2, h3⟩ := h
  exact ⟨s, Nat.le_trans h1 hm, h2, h3⟩
theorem SX.kp {n B W H : Nat} {O : Obj} {wA w w' : World} (h : SX n B W H O wA w) (k : Kp [] w w') : SX n B W H O wA w' := by
  obtain ⟨s, h1, h2, h3⟩ := h
  exact ⟨s, h1, h2, h3.kp k⟩

theorem rate0_cases (sr : Int) (h : RateOk sr) : rate0 sr = 0 ∨ rate0 sr = 12 ∨ rate0 sr = 13 ∨ rate0 sr = 14 := by
  rcases h with rfl | rfl | rfl | rfl | rfl | rfl | rfl | rfl <;> decide

set_option maxRecDepth 100000 in
set_option maxHeartbeats 8000000 in
/-- spec.WriteHead, plain. -/
theorem specHeadP (va : Bool) (bs : Nat) (sr : Int) (ch : Nat) (bps : Int) (num : Nat) (w : World) (hbs : bs ≤ 256) (hbs0 : 1 ≤ bs) (hsr : RateOk sr) (hbps : BpsOk bps) (hnum : num < 2048) :
    Calls Tryz.prog 42 #[headV va bs sr ch bps num, .bool true] w (SomeBytes 200 w) := by
  have HSR := Bx.mk hsr; clear hsr
  have HBP := Bx.mk hbps; clear hbps
  unfold headV
  generalize hO : (Obj.cells #[.bool va, .int .i64 bs, .int .i64 sr, .int .i64 ch, .int .i64 bps, .int .u64 num] 43 (0, 0)) = O
  have hs0 := sw_new (w.alloc O) (.cells #[.slice none 0 0, .int .i64 0] 158) w.heap.size (by simp) rfl
  rw [World.size_alloc] at hs0
  have H0 : Bx (SS w.heap.size (w.heap.size + 1) w.heap.size O ((w.alloc O).alloc (.cells #[.slice none 0 0, .int .i64 0] 158)) ([], []) ((w.alloc O).alloc (.cells #[.slice none 0 0, .int .i64 0] 158))) := ⟨hs0, Fr.refl _ _ _, heap_alloc (heap_alloc_new _ _)⟩
  have hK0 : Bx (Kp [] w ((w.alloc O).alloc (.cells #[.slice none 0 0, .int .i64 0] 158))) := ⟨(Kp.alloc _ _ _).trans (Kp.alloc _ _ _)⟩
  clear hs0
  subst hO
  have HN : Bx (w.heap.size ∉ [w.heap.size + 1]) := ⟨by simp⟩
  go_enter Tryz.func42, Tryz.ntmps42
  go_wp2_with fail
  refine (swordI w.heap.size _ 32764 15 _ _ H0.out.1 (by omega) (by omega) (by simp [cnt])).mono ?_
  rintro e w1 ⟨rfl, hb, hf, _⟩
  have H1 : Bx (SX 15 w.heap.size (w.heap.size + 1) w.heap.size (.cells #[.bool va, .int .i64 bs, .int .i64 sr, .int .i64 ch, .int .i64 bps, .int .u64 num] 43 (0, 0)) ((w.alloc (.cells #[.bool va, .int .i64 bs, .int .i64 sr, .int .i64 ch, .int .i64 bps, .int .u64 num] 43 (0, 0))).alloc (.cells #[.slice none 0 0, .int .i64 0] 158)) w1) := ⟨_, by rw [cnt_wrB, bitsN_length]; exact Nat.le_refl _, by rw [cnt_wrB, bitsN_length]; exact Nat.le_refl _, H0.out.next (by decide) HN.out hb hf⟩
  clear hb hf H0
  obtain ⟨s1, h1⟩ := H1.out
  have c0 := Lib.cell_of_heap h1.2.2.2.2 0
  simp only [List.getElem?_toArray, List.getElem?_cons_zero] at c0
  clear h1
  go_upto_if 22 with fail
  go_cut [6] from 23 (fun u wx => u = .int .i64 (va.toNat : Nat) ∧ w1 = wx)
  case first =>
    cases va
    all_goals
      go_wp2_with fail
      go_meet
      case rel => exact ⟨rfl, rfl⟩
  case rest =>
    obtain ⟨rfl, rfl⟩ := hcut
    clear c0
    obtain ⟨s1, h1⟩ := H1.out
    have H1 := Bx.mk h1
    clear h1
    go_wp2_with fail
    refine (swordI w.heap.size _ _ 1 _ _ H1.out.2.2.1 (by omega) (by omega) (by have := H1.out.1; rw [show (1 : Int).toNat = 1 from rfl]; omega)).mono ?_
    rintro e w2 ⟨rfl, hb, hf, _⟩
    have H2 := Bx.mk (SX.word H1.out HN.out (by decide) hb hf); clear hb hf
    obtain ⟨s2, h2⟩ := H2.out
    have c1 := Lib.cell_of_heap h2.2.2.2.2 1
    simp only [List.getElem?_toArray, List.getElem?_cons_zero, List.getElem?_cons_succ] at c1
    clear h2
    have hle : ((bs : Nat) : Int) ≤ 256 := by omega
    go_wp2_with fail
    clear c1
    go_loopw [7, 8] (fun z k wx => ∃ i q : Nat, 1 ≤ i ∧ i ≤ 16 ∧ k = .int .i64 i ∧ z = .int .i64 6 ∧ w2.drewN q = wx) (fun _ k _ => 16 - (intOf k).toNat)
    case atStart => exact ⟨1, 0, by omega, by omega, rfl, rfl, rfl⟩
    case round =>
      obtain ⟨i, q, hi1, hi2, rfl, rfl, hq⟩ := hrel
      have HQ := Bx.mk hq
      clear hq
      by_cases hi16 : i < 16
      · go_wp2_with fail
        go_quiet (fail)
        go_wp2_with fail
        go_roundw
        case rel =>
          refine ⟨i + 1, q + nq, by omega, by omega, by go_num, rfl, by rw [← HQ.out, World.drewN_drewN]⟩
        case measure => simp [intOf]; omega
      · obtain rfl : i = 16 := by omega
        have HKQ : Bx (Kp [] w2 wr) := ⟨by rw [← HQ.out]; exact Kp.drewN _ _ _⟩
        have H3 := Bx.mk (H2.out.kp HKQ.out)
        obtain ⟨qcc2, hcc2⟩ := H3.out
        have c2 := Lib.cell_of_heap hcc2.2.2.2.2 2
        simp only [List.getElem?_toArray, List.getElem?_cons_zero, List.getElem?_cons_succ] at c2
        clear hcc2
        go_upto_block 2 with fail
        go_cut [9] from 43 (fun u wx => u = .int .i64 (rate0 sr) ∧ wr = wx)
        case first =>
          have hsr := HSR.out
          clear HSR HBP H3 H2 HKQ HQ hK0 hbs hbs0 hnum hle
          rcases hsr with rfl | rfl | rfl | rfl | rfl | rfl | rfl | rfl
          all_goals
            go_wp2_with fail
            go_meet
            case rel => exact ⟨rfl, rfl⟩
        case rest =>
          obtain ⟨rfl, rfl⟩ := hcut
          have HRT := Bx.mk (rate0_cases sr HSR.out)
          clear c2
          generalize rate0 sr = rt at HRT ⊢
          go_wp2_with fail
          refine (specRates _).mono ?_
          rintro e w4 ⟨rfl, hw4⟩
          have HK4 : Bx (Kp [] wr w4) := ⟨by rw [hw4]; exact Kp.alloc _ _ _⟩
          have HR4 : Bx (w4.heap[wr.heap.size]? = some (.cells (ratesL.map (Value.int .i64)).toArray 3 (0, 0))) := ⟨by rw [hw4]; exact heap_alloc_new _ _⟩
          have H4 := Bx.mk (H3.out.kp HK4.out)
          clear hw4
          go_wp2_with fail
          go_loop [9, 64] (fun r k => ∃ i : Nat, i ≤ 12 ∧ k = .int .i64 i ∧ r = .int .i64 rt) (fun _ k => 12 - (intOf k).toNat)
          case atStart => exact ⟨0, by omega, rfl, rfl⟩
          case round =>
            obtain ⟨i, hi, rfl, rfl⟩ := hrel
            by_cases hi12 : i < 12
            · have hc := Lib.cell_of_heap HR4.out i
              have hcv : (ratesL.map (Value.int .i64)).toArray[i]? = some (.int .i64 (ratesL.getD i 0)) := by
                rw [List.getElem?_toArray, List.getElem?_map, List.getD_eq_getElem?_getD, List.getElem?_eq_getElem (by simpa [ratesL] using hi12)]
                rfl
              rw [hcv] at hc
              clear hcv
              generalize ratesL.getD i 0 = x at hc
              by_cases hi0 : 0 < i
              · go_wp2_with fail
                go_round
                case rel => exact ⟨i + 1, by omega, by go_num, rfl⟩
                case measure => simp [intOf]; omega
              · go_wp2_with fail
                go_round
                case rel => exact ⟨i + 1, by omega, by go_num, rfl⟩
                case measure => simp [intOf]; omega
            · obtain rfl : i = 12 := by omega
              clear HR4 HK4
              obtain ⟨qH5, hH5⟩ := H4.out
              have GH5 := Bx.mk hH5
              clear hH5
              go_wp2_with fail
              refine (swordI w.heap.size _ _ 4 _ _ GH5.out.2.2.1 (by omega) (by omega) (by have := GH5.out.1; rw [show (4 : Int).toNat = 4 from rfl]; omega)).mono ?_
              rintro e w5 ⟨rfl, hb, hf, _⟩
              have H5 := Bx.mk (SX.word GH5.out HN.out (by decide) hb hf); clear hb hf GH5
              obtain ⟨qH6, hH6⟩ := H5.out
              have GH6 := Bx.mk hH6
              clear hH6
              go_wp2_with fail
              refine (swordI w.heap.size _ _ 4 _ _ GH6.out.2.2.1 (by omega) (by omega) (by have := GH6.out.1; rw [show (4 : Int).toNat = 4 from rfl]; omega)).mono ?_
              rintro e w6 ⟨rfl, hb, hf, _⟩
              have H6 := Bx.mk (SX.word GH6.out HN.out (by decide) hb hf); clear hb hf GH6
              obtain ⟨qcc3, hcc3⟩ := H6.out
              have c3 := Lib.cell_of_heap hcc3.2.2.2.2 3
              simp only [List.getElem?_toArray, List.getElem?_cons_zero, List.getElem?_cons_succ] at c3
              clear hcc3
              obtain ⟨qH7, hH7⟩ := H6.out
              have GH7 := Bx.mk hH7
              clear hH7
              go_wp2_with fail
              clear c3
              refine (swordI w.heap.size _ _ 4 _ _ GH7.out.2.2.1 (by omega) (by omega) (by have := GH7.out.1; rw [show (4 : Int).toNat = 4 from rfl]; omega)).mono ?_
              rintro e w7 ⟨rfl, hb, hf, _⟩
              have H7 := Bx.mk (SX.word GH7.out HN.out (by decide) hb hf); clear hb hf GH7
              have H8 := Bx.mk (H7.out.kp (Kp.alloc [] w7 (.cells (bpsL.map (Value.int .i64)).toArray 3)))
              have HB8 : Bx ((w7.alloc (.cells (bpsL.map (Value.int .i64)).toArray 3)).heap[w7.heap.size]? = some (.cells (bpsL.map (Value.int .i64)).toArray 3 (0, 0))) := ⟨heap_alloc_new _ _⟩
              go_wp2_with fail
              change Code.wp _ _ _ _ (w7.alloc (.cells (bpsL.map (Value.int .i64)).toArray 3))
              generalize w7.alloc (.cells (bpsL.map (Value.int .i64)).toArray 3) = w8 at H8 HB8 ⊢
              go_loop [12, 95] (fun r k => ∃ (i : Nat) (x : Int), i ≤ 7 ∧ k = .int .i64 i ∧ r = .int .i64 x) (fun _ k => 7 - (intOf k).toNat)
              case atStart => exact ⟨0, 0, by omega, rfl, rfl⟩
              case round =>
                obtain ⟨i, y, hi, rfl, rfl⟩ := hrel
                by_cases hi7 : i < 7
                · have hc := Lib.cell_of_heap HB8.out i
                  have hcv : (bpsL.map (Value.int .i64)).toArray[i]? = some (.int .i64 (bpsL.getD i 0)) := by
                    rw [List.getElem?_toArray, List.getElem?_map, List.getD_eq_getElem?_getD, List.getElem?_eq_getElem (by simpa [bpsL] using hi7)]
                    rfl
                  rw [hcv] at hc
                  clear hcv
                  generalize bpsL.getD i 0 = x at hc
                  obtain ⟨qcc4, hcc4⟩ := H8.out
                  have c4 := Lib.cell_of_heap hcc4.2.2.2.2 4
                  simp only [List.getElem?_toArray, List.getElem?_cons_zero, List.getElem?_cons_succ] at c4
                  clear hcc4
                  by_cases hi0 : 0 < x
                  · by_cases hx : x = bps
                    · have hxb : (x == bps) = true := by simp [hx]
                      clear hx
                      go_wp2_with fail
                      go_round
                      case rel => exact ⟨i + 1, _, by omega, by go_num, rfl⟩
                      case measure => simp [intOf]; omega
                    · have hxb : (x == bps) = false := by simp [hx]
                      clear hx
                      go_wp2_with fail
                      go_round
                      case rel => exact ⟨i + 1, _, by omega, by go_num, rfl⟩
                      case measure => simp [intOf]; omega
                  · go_wp2_with fail
                    go_round
                    case rel => exact ⟨i + 1, _, by omega, by go_num, rfl⟩
                    case measure => simp [intOf]; omega
                · obtain rfl : i = 7 := by omega
                  obtain ⟨qH9, hH9⟩ := H8.out
                  have GH9 := Bx.mk hH9
                  clear hH9
                  go_wp2_with fail
                  refine (swordI w.heap.size _ _ 3 _ _ GH9.out.2.2.1 (by omega) (by omega) (by have := GH9.out.1; rw [show (3 : Int).toNat = 3 from rfl]; omega)).mono ?_
                  rintro e w9 ⟨rfl, hb, hf, _⟩
                  have H9 := Bx.mk (SX.word GH9.out HN.out (by decide) hb hf); clear hb hf GH9
                  obtain ⟨qHA, hHA⟩ := H9.out
                  have GHA := Bx.mk hHA
                  clear hHA
                  go_wp2_with fail
                  refine (swordI w.heap.size _ _ 1 _ _ GHA.out.2.2.1 (by omega) (by omega) (by have := GHA.out.1; rw [show (1 : Int).toNat = 1 from rfl]; omega)).mono ?_
                  rintro e wa ⟨rfl, hb, hf, _⟩
                  have HA := Bx.mk (SX.word GHA.out HN.out (by decide) hb hf); clear hb hf GHA
                  obtain ⟨qcc5, hcc5⟩ := HA.out
                  have c5 := Lib.cell_of_heap hcc5.2.2.2.2 5
                  simp only [List.getElem?_toArray, List.getElem?_cons_zero, List.getElem?_cons_succ] at c5
                  clear hcc5
                  go_wp2_with fail
                  clear c5
                  refine (specCoded num hnum _).mono ?_
                  rintro e wb ⟨g, cap, rfl, hown, hk⟩
                  have HBK := Bx.mk hk
                  have HOW := Bx.mk hown
                  have HBB := Bx.mk ((HA.out.kp hk).mono (m := 40) (by decide))
                  have HLB : Bx ((codedB num).length ≤ 2) := ⟨by unfold codedB; split <;> simp⟩
                  have HSZ : Bx (wa.heap.size ≤ g ∧ w.heap.size + 1 < wa.heap.size ∧ (∀ g', ownOf (w.heap.size + 1) wa = some g' → g' < wa.heap.size)) := by
                    obtain ⟨sa, ha⟩ := HA.out
                    rcases hown.2 with ⟨h, _⟩ | ⟨g', cap', cur, h, hb, _⟩
                    · cases h
                    · cases h
                      exact ⟨hb, ha.2.2.1.len, ha.2.2.1.own_lt⟩
                  clear hown hk H9 H8 HB8 H7 H6 H5 H4 H3 H2 H1
                  go_wp2_with fail
                  go_loopw [119] (fun k wx => ∃ i : Nat, i ≤ (codedB num).length ∧ k = .int .i64 i ∧ SX (40 + 8 * i) w.heap.size (w.heap.size + 1) w.heap.size (.cells #[.bool va, .int .i64 bs, .int .i64 sr, .int .i64 ch, .int .i64 bps, .int .u64 num] 43 (0, 0)) ((w.alloc (.cells #[.bool va, .int .i64 bs, .int .i64 sr, .int .i64 ch, .int .i64 bps, .int .u64 num] 43 (0, 0))).alloc (.cells #[.slice none 0 0, .int .i64 0] 158)) wx ∧ wx.heap[g]? = wb.heap[g]? ∧ ownOf (w.heap.size + 1) wx ≠ some g) (fun k _ => (codedB num).length - (intOf k).toNat)
                  case atStart =>
                    refine ⟨0, by omega, rfl, by simpa using HBB.out, rfl, fun ho => ?_⟩
                    rw [ownOf_congr (w := wa) (HBK.out.block _ HSZ.out.2.1 (by simp))] at ho
                    have := HSZ.out.2.2 g ho
                    have := HSZ.out.1
                    omega
                  case round =>
                    clear HA HBB
                    obtain ⟨i, hi, rfl, hss, hg, hno⟩ := hrel
                    obtain ⟨si, hsi⟩ := hss
                    have HSS := Bx.mk hsi
                    have HG := Bx.mk hg
                    have HNO := Bx.mk hno
                    clear hsi hg hno
                    by_cases hil : i < (codedB num).length
                    · have hi2 : i ≤ 2 := by
                        have := HLB.out
                        omega
                      have hcell := HOW.out.cellAt i (by omega)
                      rw [show (Lib.byteCells (codedB num))[i]? = some (.int .u8 (codedB num)[i].toNat) from by simp [Lib.byteCells, hil]] at hcell
                      have hc2 : wr.cell? ⟨g, i, none⟩ = some (.int .u8 (codedB num)[i].toNat) := by
                        rw [← hcell]; exact World.cell?_of_block HG.out
                      generalize (codedB num)[i] = bb at hc2
                      have HIL := Bx.mk hil
                      have hbb : (bb.toNat : Int) < 256 := by have := bb.toNat_lt; omega
                      clear hcell
                      go_wp2_with fail
                      refine (swordI w.heap.size _ _ 8 _ _ HSS.out.2.2.1 (by omega) (by omega) (by have := HSS.out.1; rw [show (8 : Int).toNat = 8 from rfl]; omega)).mono ?_
                      rintro e wy ⟨rfl, hb, hf, ho⟩
                      have HSY := Bx.mk ((SX.word HSS.out HN.out (by decide) hb hf).mono (m := 40 + 8 * (i + 1)) (by rw [show (8 : Int).toNat = 8 from rfl]; omega))
                      have hgs : g < wr.heap.size := by
                        have h1 := (HOW.out.lt g rfl).2
                        have h2 := Array.getElem?_eq_getElem h1
                        have h3 := HG.out
                        rw [h2] at h3
                        exact Lib.lt_of_heap h3
                      have hgW : g ≠ w.heap.size + 1 := by
                        obtain ⟨q1, q2, _⟩ := HSZ.out
                        omega
                      have HGY : Bx (wy.heap[g]? = wb.heap[g]?) := ⟨(ho.block g hgs hgW HNO.out).trans HG.out⟩
                      have HNY : Bx (ownOf (w.heap.size + 1) wy ≠ some g) := by
                        refine ⟨fun h => ?_⟩
                        rcases ho.own g h with h1 | h1
                        · exact HNO.out h1
                        · exact Nat.lt_irrefl _ (Nat.lt_of_lt_of_le hgs h1)
                      clear hb hf ho hgs
                      go_wp2_with fail
                      go_roundw
                      case rel => exact ⟨i + 1, HIL.out, by go_num, HSY.out, HGY.out, HNY.out⟩
                      case measure =>
                        have := HIL.out
                        simp [intOf]; omega
                    · obtain rfl : i = (codedB num).length := by omega
                      have HZ : Bx (SX 56 w.heap.size (w.heap.size + 1) w.heap.size (.cells #[.bool va, .int .i64 bs, .int .i64 sr, .int .i64 ch, .int .i64 bps, .int .u64 num] 43 (0, 0)) ((w.alloc (.cells #[.bool va, .int .i64 bs, .int .i64 sr, .int .i64 ch, .int .i64 bps, .int .u64 num] 43 (0, 0))).alloc (.cells #[.slice none 0 0, .int .i64 0] 158)) wr) := ⟨SX.mono ⟨si, HSS.out⟩ (by have := HLB.out; omega)⟩
                      have c1 := Lib.cell_of_heap HSS.out.2.2.2.2 1
                      simp only [List.getElem?_toArray, List.getElem?_cons_zero, List.getElem?_cons_succ] at c1
                      clear HG HNO HBK HOW HSZ HLB HSS
                      obtain ⟨s3, h3⟩ := HZ.out
                      have G3 := Bx.mk h3
                      clear h3 HZ
                      go_wp2_with fail
                      clear c1
                      refine (swordI w.heap.size _ _ 8 _ _ G3.out.2.2.1 (by omega) (by omega) (by have := G3.out.1; rw [show (8 : Int).toNat = 8 from rfl]; omega)).mono ?_
                      rintro e wc0 ⟨rfl, hb, hf, _⟩
                      have HC1 := Bx.mk ((SX.word G3.out HN.out (by decide) hb hf).mono (m := 64) (by decide))
                      clear hb hf G3
                      obtain ⟨s4, h4⟩ := HC1.out
                      have G4 := Bx.mk h4
                      have c2 := Lib.cell_of_heap h4.2.2.2.2 2
                      simp only [List.getElem?_toArray, List.getElem?_cons_zero, List.getElem?_cons_succ] at c2
                      clear h4
                      go_upto_block 10 with fail
                      go_cut [] from 144 (fun wx => SX 80 w.heap.size (w.heap.size + 1) w.heap.size (.cells #[.bool va, .int .i64 bs, .int .i64 sr, .int .i64 ch, .int .i64 bps, .int .u64 num] 43 (0, 0)) ((w.alloc (.cells #[.bool va, .int .i64 bs, .int .i64 sr, .int .i64 ch, .int .i64 bps, .int .u64 num] 43 (0, 0))).alloc (.cells #[.slice none 0 0, .int .i64 0] 158)) wx)
                      case first =>
                        have hrt := HRT.out
                        rcases hrt with rfl | rfl | rfl | rfl
                        · go_wp2_with fail
                          go_meet
                          case rel => exact HC1.out.mono (by decide)
                        · go_wp2_with fail
                          refine (swordI w.heap.size _ _ 8 _ _ G4.out.2.2.1 (by omega) (by omega) (by have := G4.out.1; rw [show (8 : Int).toNat = 8 from rfl]; omega)).mono ?_
                          rintro e wy ⟨rfl, hb, hf, _⟩
                          have HX := Bx.mk ((SX.word G4.out HN.out (by decide) hb hf).mono (m := 80) (by decide))
                          clear hb hf
                          go_wp2_with fail
                          go_meet
                          case rel => exact HX.out
                        · go_wp2_with fail
                          refine (swordI w.heap.size _ _ 16 _ _ G4.out.2.2.1 (by omega) (by omega) (by have := G4.out.1; rw [show (16 : Int).toNat = 16 from rfl]; omega)).mono ?_
                          rintro e wy ⟨rfl, hb, hf, _⟩
                          have HX := Bx.mk ((SX.word G4.out HN.out (by decide) hb hf).mono (m := 80) (by decide))
                          clear hb hf
                          go_wp2_with fail
                          go_meet
                          case rel => exact HX.out
                        · go_wp2_with fail
                          refine (swordI w.heap.size _ _ 16 _ _ G4.out.2.2.1 (by omega) (by omega) (by have := G4.out.1; rw [show (16 : Int).toNat = 16 from rfl]; omega)).mono ?_
                          rintro e wy ⟨rfl, hb, hf, _⟩
                          have HX := Bx.mk ((SX.word G4.out HN.out (by decide) hb hf).mono (m := 80) (by decide))
                          clear hb hf
                          go_wp2_with fail
                          go_meet
                          case rel => exact HX.out
                      case rest =>
                        clear HC1 G4 c2 HRT
                        obtain ⟨sf, hc1, hc2, hsw, hff, hhh⟩ := hcut
                        obtain ⟨vv, hW, hown, hf8, _, _⟩ := hsw
                        have hol : 0 < (outB sf).length ∧ (outB sf).length ≤ 11 := by
                          rw [outB_length]
                          unfold cnt at hc1 hc2
                          split <;> omega
                        generalize outB sf = hd at hown hol
                        obtain ⟨hne, hle2⟩ := hol
                        obtain ⟨g', cap', rfl, hg1, hg2⟩ := hown.form hne
                        have HO3 := Bx.mk hown
                        have HKW : Bx (Kp [] w wc) := ⟨(((hK0.out.fr (Nat.le_refl _) (by simp)).mono (Nat.le_refl _) (by simp)).trans hff).toKp (Nat.le_refl _)⟩
                        have c0 := Lib.cell_of_heap hW 0
                        simp only [List.getElem?_toArray, List.getElem?_cons_zero] at c0
                        have HBA : Bx (BytesAt g' 0 hd wc) := by
                          refine ⟨fun i x hx => ?_⟩
                          have h1 := hown.cellAt i (by simpa using (List.getElem?_eq_some_iff.1 hx).1)
                          rw [Nat.zero_add, h1]
                          simp [Lib.byteCells, hx]
                        have hWl := Lib.lt_of_heap hW
                        clear hW hown hff hhh hc1 hc2 hf8
                        obtain ⟨i0, hi, hz0, hz1, hz2⟩ := info_parts Tryz.info5c
                        have HBQ : Bx (∀ q, BytesAt g' 0 hd (wc.drewN q)) := ⟨fun q => HBA.out⟩
                        generalize hcr : (crc8 hd).toNat = cr
                        have hcr2 : cr < 256 := by
                          have := (crc8 hd).isLt
                          omega
                        have HCR := Bx.mk hcr
                        clear hcr
                        have HOQ : Bx (∀ q, ((wc.drewN q).alloc (.cells #[.int .u8 cr] 5)).ownsRow w.heap.size 5 1 (.slice (some ⟨g', 0, none⟩) hd.length cap') hd.length (Lib.byteCells hd)) := ⟨fun q => HO3.out.alloc _⟩
                        have HNQ : Bx (∀ q (j : Nat) u, ([.int .u8 cr] : List Value)[j]? = some u → ((wc.drewN q).alloc (.cells #[.int .u8 cr] 5)).cell? ((⟨wc.heap.size, 0, none⟩ : Addr).add j) = some u) := ⟨fun q => cell_one_new (wc.drewN q) (.int .u8 cr) 5⟩
                        have HSQ : Bx (∀ q, w.heap.size ≤ ((wc.drewN q).alloc (.cells #[.int .u8 cr] 5)).heap.size) := by
                          refine ⟨fun q => ?_⟩
                          show _ ≤ (wc.heap.push _).size
                          rw [Array.size_push]
                          omega
                        have hwr : IntKind.u8.wrap (cr : Int) = cr := by rw [IntKind.wrap_u8]; omega
                        have c0d : ∀ q : Nat, (wc.drewN q).cell? ⟨w.heap.size + 1, 0, none⟩ = some (.slice (some ⟨g', 0, none⟩) hd.length cap') := fun _ => c0
                        have c0q : ∀ (q : Nat) (O : Obj), ((wc.drewN q).alloc O).cell? ⟨w.heap.size + 1, 0, none⟩ = some (.slice (some ⟨g', 0, none⟩) hd.length cap') := fun q O => (World.cell?_of_block (w := wc) (Below.heap_alloc (wc.drewN q) O _ hWl)).trans c0
                        have HL11 := Bx.mk hle2
                        clear hbs hbs0 hnum hle hle2 HBP HSR HN hK0
                        go_wp2_with fail
                        go_region_law (first
                          | (go_simp; go_at_call 83; refine (scrc8a g' cap' hd _ (HBQ.out _) (by have := HL11.out; omega)).mono ?_; rintro e wz ⟨rfl, q, rfl⟩; rw [HCR.out])
                          | (refine step_append_lies _ rfl (.tmp 167) (.tmp 174) 23 rfl w.heap.size 5 i0 (.int .u8 0) 1 1 Tryz.underlying23 hi hz0 hz1 hz2 rfl (by decide) (.slice (some ⟨g', 0, none⟩) hd.length cap') hd.length (Lib.byteCells hd) (by simp [Act.eval]) (HOQ.out _) ⟨wc.heap.size, 0, none⟩ 1 1 [.int .u8 cr] (by simp [Act.eval]) rfl (HNQ.out _) (by simp [Value.oneCell']) (by decide) (by have := HL11.out; unfold maxLen; omega) (by have := HL11.out; omega) (HSQ.out _) _ rfl ?_; intro g2 cap2 w1 hown hgrow hat hlt; have hk : Kp [] w w1 := ((HKW.out.trans (Kp.drewN _ _ _)).trans (Kp.alloc _ _ _)).new (Kp.grown (S := [g']) hgrow (by intro k hk; simpa [Value.ownBlock] using hk.symm)) (by simpa using hg1); have HM := Bx.mk (And.intro hown hk); clear hown hgrow hat hlt hk))
                        all_goals
                          go_wp2_with fail
                          go_ret
                          have e : Lib.byteCells (hd ++ [UInt8.ofNat cr]) = Lib.byteCells hd ++ [.int .u8 cr] := by
                            rw [byteCells_append]
                            simp only [Lib.byteCells, List.map_cons, List.map_nil, UInt8.toNat_ofNat']
                            rw [Nat.mod_eq_of_lt (by omega : cr < 2 ^ 8)]
                          refine ⟨hd ++ [UInt8.ofNat cr], by have := HL11.out; rw [List.length_append, List.length_singleton]; omega, by rw [List.length_append, List.length_singleton]; omega, ?_⟩
                          rw [NewBytes, e, List.length_append, List.length_singleton]
                          exact ⟨g2, cap2, rfl, HM.out.1, HM.out.2⟩
end Go.Proofs.YtemcpcgcnjahjaaGreatDoor
