/-
  laws.sound: samples within their bits.
-/
import Derived.Test.YtemcpcgcnjahjaaGreatDoorGenA
import Derived.Test.YtemcpcgcnjahjaaGreatDoorOwn
import Derived.Test.YtemcpcgcnjahjaaGreatDoorSpecF
import Derived.Deep.CutRange
import Derived.Deep.CutBlock
namespace Go.Proofs.YtemcpcgcnjahjaaGreatDoor
open Go.RowKit

theorem tdiv8_bound (a K : Int) (h1 : -K ≤ a) (h2 : a ≤ K) : -K ≤ a.tdiv 8 ∧ a.tdiv 8 ≤ K := by
  rcases Int.le_total 0 a with h | h
  · rw [Int.tdiv_eq_ediv_of_nonneg h]; omega
  · have e : a.tdiv 8 = -((-a).tdiv 8) := by rw [Int.neg_tdiv, Int.neg_neg]
    rw [e, Int.tdiv_eq_ediv_of_nonneg (by omega)]; omega
theorem tmod_bound (a b : Int) (hb : 0 < b) : -b < a.tmod b ∧ a.tmod b < b := by
  rcases Int.le_total 0 a with h | h
  · rw [Int.tmod_eq_emod_of_nonneg h]
    have h1 := Int.emod_nonneg a (by omega : b ≠ 0)
    have h2 := Int.emod_lt_of_pos a hb
    omega
  · have e : a.tmod b = -((-a).tmod b) := by rw [Int.neg_tmod, Int.neg_neg]
    rw [e, Int.tmod_eq_emod_of_nonneg (by omega)]
    have h1 := Int.emod_nonneg (-a) (by omega : b ≠ 0)
    have h2 := Int.emod_lt_of_pos (-a) hb
    omega

/-- So many bytes that can be read. -/
def DatAt (A : Option Addr) (n : Nat) (w : World) : Prop := 0 < n → ∃ b o, A = some ⟨b, o, none⟩ ∧ ∀ j, j < n → ∃ x : Nat, x < 256 ∧ w.cell? ⟨b, o + j, none⟩ = some (.int .u8 x)
theorem DatAt.kp {A : Option Addr} {n : Nat} {w w' : World} (h : DatAt A n w) (k : Kp [] w w') : DatAt A n w' := fun hn => by
  obtain ⟨b, o, e, hc⟩ := h hn
  refine ⟨b, o, e, fun j hj => ?_⟩
  obtain ⟨x, hx, hcx⟩ := hc j hj
  refine ⟨x, hx, ?_⟩
  have hl := World.block_lt_of_cell? _ _ hcx
  rw [World.cell?_of_block (k.block _ hl (by simp)), hcx]

/-- What sound comes to. -/
def Sounded (n : Nat) (top : Int) (w : World) (e : Ending) (w' : World) : Prop := ∃ xs : List Int, xs.length = n ∧ (∀ x ∈ xs, -top ≤ x ∧ x < top) ∧ NewInts xs w e w'

set_option maxRecDepth 100000 in
set_option maxHeartbeats 8000000 in
theorem lawSound (kd size bits n c : Nat) (A : Option Addr) (w : World) (hkd : kd < 256) (hsz : size ≤ 256) (hb : BpsOk bits) (hn : n ≤ 1000) (hd : DatAt A n w) :
    Calls Tryz.prog 20 #[.int .u8 kd, .int .i64 size, .int .i64 bits, .slice A n c] w (Sounded size (2 ^ (bits - 1)) w) := by
  have HB := Bx.mk hb; clear hb
  have HD := Bx.mk hd; clear hd
  have HO0 : Bx ((w.alloc (.cells #[] 3)).ownsRow w.heap.size 3 1 (.slice (some ⟨w.heap.size, 0, none⟩) 0 0) 0 []) := ⟨World.ownsRow_made (base := w.heap.size) (e := 3) (size := 1) w #[] 0 (Nat.le_refl _) (by decide) rfl⟩
  have HK0 := Bx.mk (Kp.alloc [] w (.cells #[] 3))
  go_enter Tryz.func20, Tryz.ntmps20
  go_upto_region 3 with fail
  go_cut [11] from 15 to 17 (fun v wx => v = .int .i64 (2 ^ (bits - 1) : Int) ∧ w.alloc (.cells #[] 3) = wx)
  case first =>
    have h := HB.out
    clear HB HD HO0 HK0
    unfold BpsOk at h
    have h' : bits = 8 ∨ bits = 12 ∨ bits = 16 ∨ bits = 20 ∨ bits = 24 := by omega
    rcases h' with rfl | rfl | rfl | rfl | rfl
    all_goals
      clear h
      go_wp2_with fail
      go_meet
      case rel => exact ⟨rfl, rfl⟩
  case rest =>
    obtain ⟨rfl, rfl⟩ := hcut
    have hT : (128 : Int) ≤ 2 ^ (bits - 1) ∧ (2 ^ (bits - 1) : Int) ≤ 8388608 := by
      have h := HB.out
      unfold BpsOk at h
      have h' : bits = 8 ∨ bits = 12 ∨ bits = 16 ∨ bits = 20 ∨ bits = 24 := by omega
      rcases h' with rfl | rfl | rfl | rfl | rfl <;> decide
    generalize hTe : (2 ^ (bits - 1) : Int) = T at hT ⊢
    have HTE := Bx.mk hTe
    obtain ⟨hT1, hT2⟩ := hT
    clear hTe
    have hT0 : (2 * T == 0) = false := by simp; omega
    have hTn : ¬ (2 * T = 0) := by omega
    obtain ⟨i0, hi, hz0, hz1, hz2⟩ := info_parts Tryz.info3
    go_wp2_with fail
    go_loopw [9, 10, 19] (fun v y j wx => ∃ (k g cap : Nat) (xs : List Int) (yv : Int), k ≤ size ∧ j = .int .i64 k ∧ y = .int .i64 yv ∧ -T ≤ yv ∧ yv < T ∧ v = .slice (some ⟨g, 0, none⟩) k cap ∧ xs.length = k ∧ (∀ x ∈ xs, -T ≤ x ∧ x < T) ∧ wx.ownsRow w.heap.size 3 1 (.slice (some ⟨g, 0, none⟩) k cap) k (intsV xs) ∧ Kp [] w wx) (fun _ _ j _ => size - (intOf j).toNat)
    case atStart => exact ⟨0, _, 0, [], 0, by omega, rfl, rfl, by omega, by omega, rfl, rfl, by simp, HO0.out, HK0.out⟩
    case round =>
      clear HO0 HK0
      obtain ⟨k, g, cap, xs, yv, hk, rfl, rfl, hy1, hy2, rfl, hxl, hxb, hown, hkp⟩ := hrel
      have HXL := Bx.mk hxl
      have HXB := Bx.mk hxb
      have HOW := Bx.mk hown
      have HKP := Bx.mk hkp
      clear hxl hxb hown hkp
      by_cases hkn : k < size
      · have HKN := Bx.mk hkn
        go_upto_if 27 with fail
        go_cut [13] from 28 to 42 (fun bv wx => ∃ (z : Int) (q : Nat), 0 ≤ z ∧ z ≤ 600 ∧ bv = .int .i64 z ∧ wx = wr.drewN q)
        case first =>
          have hd := HD.out.kp HKP.out
          clear HXL HXB HOW HKP HKN HTE HB HD hT0 hTn hT1 hT2 hy1 hy2 hi hz0 hz1 hz2
          by_cases hn0 : 0 < n
          · obtain ⟨b, o, rfl, hcs⟩ := hd hn0
            obtain ⟨x, hx, hc⟩ := hcs (k % n) (Nat.mod_lt _ hn0)
            have hml := Nat.mod_lt k hn0
            have hdl := Nat.div_le_self k n
            have hr1 : Int.tmod (k : Int) (n : Int) = ((k % n : Nat) : Int) := by rw [Int.tmod_eq_emod_of_nonneg (by omega)]; rfl
            have hq1 : Int.tdiv (k : Int) (n : Int) = ((k / n : Nat) : Int) := by rw [Int.tdiv_eq_ediv_of_nonneg (by omega)]; rfl
            have hnz : ((n : Int) == 0) = false := by simp; omega
            generalize k % n = md at hc hml hr1
            generalize k / n = dv at hdl hq1
            clear hcs hd
            go_wp2_with fail
            have hm0 : (0 : Int) ≤ (md : Int) := by omega
            have hm1 : (md : Int) < (n : Int) := by omega
            have hw1 : IntKind.i64.wrap ((dv : Int) * 7) = (dv : Int) * 7 := by rw [IntKind.wrap_i64]; omega
            have hw2 : Int.tmod ((dv : Int) * 7) 256 = ((dv * 7 % 256 : Nat) : Int) := by
              rw [Int.tmod_eq_emod_of_nonneg (by omega)]; omega
            have hw3 : IntKind.i64.wrap (((dv * 7 % 256 : Nat) : Int)) = ((dv * 7 % 256 : Nat) : Int) := by rw [IntKind.wrap_i64]; omega
            have hml2 := Nat.mod_lt (dv * 7) (show 0 < 256 by decide)
            generalize dv * 7 % 256 = em at hw2 hw3 hml2
            have hw4 : IntKind.i64.wrap ((x : Int) + (em : Int)) = (x : Int) + (em : Int) := by rw [IntKind.wrap_i64]; omega
            go_quiet (fail)
            go_wp2_with fail
            go_meet
            case rel => exact ⟨_, _, by omega, by omega, rfl, rfl⟩
          · have hn1 : n = 0 := by omega
            subst hn1
            go_wp2_with fail
            go_meet
            case rel => exact ⟨_, 0, by omega, by omega, rfl, rfl⟩
        case rest =>
          obtain ⟨z, q, hz1', hz2', rfl, rfl⟩ := hcut
          have hzz : 0 ≤ z * z ∧ z * z ≤ 360000 := by
            have h1 := Int.mul_le_mul hz2' hz2' hz1' (by omega)
            exact ⟨Int.mul_nonneg hz1' hz1', by omega⟩
          obtain ⟨hzz1, hzz2⟩ := hzz
          go_upto_block 2 with fail
          go_cut [10] from 43 to 78 (fun yy wx => ∃ y : Int, yy = .int .i64 y ∧ -1000000000000 ≤ y ∧ y ≤ 1000000000000 ∧ wx = wr.drewN q)
          case first =>
            clear HXL HXB HOW HKP HKN HTE HB HD hi hz0 hz1 hz2
            have hmod : kd % 4 = 0 ∨ kd % 4 = 1 ∨ kd % 4 = 2 ∨ kd % 4 = 3 := by omega
            rcases hmod with hm | hm | hm | hm
            all_goals
              have hme : (kd : Int) % 4 = ((kd % 4 : Nat) : Int) := by omega
              rw [hm] at hme
              clear hm
              have h81 := (tdiv8_bound (yv * 7) (7 * T) (by omega) (by omega)).1
              have h82 := (tdiv8_bound (yv * 7) (7 * T) (by omega) (by omega)).2
              go_wp2_with fail
              go_meet
              case rel =>
                refine ⟨_, rfl, ?_, ?_, rfl⟩
                · first
                    | omega
                    | exact Int.le_trans (by omega) (Int.emod_nonneg _ (by omega : 2 * T ≠ 0))
                · first
                    | omega
                    | exact Int.le_trans (Int.le_of_lt (Int.emod_lt_of_pos _ (by omega : 0 < 2 * T))) (by omega)
          case rest =>
            obtain ⟨y, rfl, hy3, hy4, rfl⟩ := hcut
            clear hzz1 hzz2
            have hng : IntKind.i64.wrap (-T) = -T := by rw [IntKind.wrap_i64]; omega
            rcases (by omega : T ≤ y ∨ (y < T ∧ y < -T) ∨ (y < T ∧ -T ≤ y)) with hA | ⟨hA, hB⟩ | ⟨hA, hB⟩
            · have p1 := Int.emod_nonneg (y + T) (by omega : 2 * T ≠ 0)
              have p2 := Int.emod_lt_of_pos (y + T) (by omega : 0 < 2 * T)
              have p3 := Int.emod_nonneg ((y + T) % (2 * T) + 2 * T) (by omega : 2 * T ≠ 0)
              have p4 := Int.emod_lt_of_pos ((y + T) % (2 * T) + 2 * T) (by omega : 0 < 2 * T)
              go_upto_region 20 with fail
              have hr1 : -T ≤ (y + T) % (2 * T) - T := by omega
              have hr2 : (y + T) % (2 * T) - T < T := by omega
              generalize (y + T) % (2 * T) - T = y2 at hr1 hr2 ⊢
              clear p1 p2 p3 p4
              have HP2 : Bx (intsV (xs ++ [y2]) = intsV xs ++ [.int .i64 y2]) := ⟨intsV_snoc xs y2⟩
              have HOA := Bx.mk ((show (wr.drewN q).ownsRow w.heap.size 3 1 (.slice (some ⟨g, 0, none⟩) k cap) k (intsV xs) from HOW.out).alloc (.cells #[.int .i64 y2] 3))
              have HKQ := Bx.mk (HKP.out.trans (Kp.drewN [] wr q))
              generalize wr.drewN q = wq at HOA HKQ ⊢
              have HSZ : Bx (w.heap.size ≤ (wq.alloc (.cells #[.int .i64 y2] 3)).heap.size) := by
                have := HKQ.out.size
                constructor
                simp only [World.size_alloc]; omega
              clear hA hng hT0 hTn hy3 hy4
              go_wp2_with (at_builtin; refine wpList_append_lies _ rfl (.tmp 102) (.tmp 104) 48 rfl w.heap.size 3 i0 (.int .i64 0) 1 8 Tryz.underlying48 hi hz0 hz1 hz2 rfl (by decide) (.slice (some ⟨g, 0, none⟩) k cap) k (intsV xs) (by simp [Act.eval]) HOA.out ⟨wq.heap.size, 0, none⟩ 1 1 [.int .i64 y2] (by simp [Act.eval]) rfl (cell_one_new _ _ _) (by simp [Value.oneCell']) (by decide) (by unfold maxLen; omega) (by omega) HSZ.out _ rfl ?_)
              intro g3 cap3 w3 hown hgrow hat hlt
              rw [← HP2.out] at hown
              have HO3 := Bx.mk hown
              have HK3 := Bx.mk ((HKQ.out.trans (Kp.alloc [] wq (.cells #[.int .i64 y2] 3))).new (growKp HOA.out hgrow).1 (growKp HOA.out hgrow).2.2)
              clear hown hgrow hat hlt HOA HSZ
              go_wp2_with fail
              go_roundw
              case rel =>
                refine ⟨k + 1, g3, cap3, xs ++ [y2], y2, HKN.out, by go_num, rfl, hr1, hr2, rfl, by rw [List.length_append, HXL.out]; rfl, fun x hx => ?_, HO3.out, HK3.out⟩
                rcases List.mem_append.1 hx with h | h
                · exact HXB.out x h
                · obtain rfl : x = y2 := by simpa using h
                  exact ⟨hr1, hr2⟩
              case measure =>
                have := HKN.out
                simp [intOf]; omega
            · have p1 := (tmod_bound (y + T) (2 * T) (by omega)).1
              have p2 := (tmod_bound (y + T) (2 * T) (by omega)).2
              have p3 := Int.emod_nonneg ((y + T).tmod (2 * T) + 2 * T) (by omega : 2 * T ≠ 0)
              have p4 := Int.emod_lt_of_pos ((y + T).tmod (2 * T) + 2 * T) (by omega : 0 < 2 * T)
              have p5 := Int.emod_nonneg ((y + T).tmod (2 * T)) (by omega : 2 * T ≠ 0)
              have p6 := Int.emod_lt_of_pos ((y + T).tmod (2 * T)) (by omega : 0 < 2 * T)
              go_upto_region 20 with fail
              have hr1 : -T ≤ (y + T).tmod (2 * T) % (2 * T) - T := by omega
              have hr2 : (y + T).tmod (2 * T) % (2 * T) - T < T := by omega
              generalize (y + T).tmod (2 * T) % (2 * T) - T = y2 at hr1 hr2 ⊢
              clear p1 p2 p3 p4 p5 p6 hB
              have HP2 : Bx (intsV (xs ++ [y2]) = intsV xs ++ [.int .i64 y2]) := ⟨intsV_snoc xs y2⟩
              have HOA := Bx.mk ((show (wr.drewN q).ownsRow w.heap.size 3 1 (.slice (some ⟨g, 0, none⟩) k cap) k (intsV xs) from HOW.out).alloc (.cells #[.int .i64 y2] 3))
              have HKQ := Bx.mk (HKP.out.trans (Kp.drewN [] wr q))
              generalize wr.drewN q = wq at HOA HKQ ⊢
              have HSZ : Bx (w.heap.size ≤ (wq.alloc (.cells #[.int .i64 y2] 3)).heap.size) := by
                have := HKQ.out.size
                constructor
                simp only [World.size_alloc]; omega
              clear hA hng hT0 hTn hy3 hy4
              go_wp2_with (at_builtin; refine wpList_append_lies _ rfl (.tmp 102) (.tmp 104) 48 rfl w.heap.size 3 i0 (.int .i64 0) 1 8 Tryz.underlying48 hi hz0 hz1 hz2 rfl (by decide) (.slice (some ⟨g, 0, none⟩) k cap) k (intsV xs) (by simp [Act.eval]) HOA.out ⟨wq.heap.size, 0, none⟩ 1 1 [.int .i64 y2] (by simp [Act.eval]) rfl (cell_one_new _ _ _) (by simp [Value.oneCell']) (by decide) (by unfold maxLen; omega) (by omega) HSZ.out _ rfl ?_)
              intro g3 cap3 w3 hown hgrow hat hlt
              rw [← HP2.out] at hown
              have HO3 := Bx.mk hown
              have HK3 := Bx.mk ((HKQ.out.trans (Kp.alloc [] wq (.cells #[.int .i64 y2] 3))).new (growKp HOA.out hgrow).1 (growKp HOA.out hgrow).2.2)
              clear hown hgrow hat hlt HOA HSZ
              go_wp2_with fail
              go_roundw
              case rel =>
                refine ⟨k + 1, g3, cap3, xs ++ [y2], y2, HKN.out, by go_num, rfl, hr1, hr2, rfl, by rw [List.length_append, HXL.out]; rfl, fun x hx => ?_, HO3.out, HK3.out⟩
                rcases List.mem_append.1 hx with h | h
                · exact HXB.out x h
                · obtain rfl : x = y2 := by simpa using h
                  exact ⟨hr1, hr2⟩
              case measure =>
                have := HKN.out
                simp [intOf]; omega
            · go_upto_region 20 with fail
              obtain ⟨y2, rfl⟩ : ∃ y2 : Int, y2 = y := ⟨_, rfl⟩
              have hr1 : -T ≤ y2 := hB
              have hr2 : y2 < T := hA
              clear hB
              have HP2 : Bx (intsV (xs ++ [y2]) = intsV xs ++ [.int .i64 y2]) := ⟨intsV_snoc xs y2⟩
              have HOA := Bx.mk ((show (wr.drewN q).ownsRow w.heap.size 3 1 (.slice (some ⟨g, 0, none⟩) k cap) k (intsV xs) from HOW.out).alloc (.cells #[.int .i64 y2] 3))
              have HKQ := Bx.mk (HKP.out.trans (Kp.drewN [] wr q))
              generalize wr.drewN q = wq at HOA HKQ ⊢
              have HSZ : Bx (w.heap.size ≤ (wq.alloc (.cells #[.int .i64 y2] 3)).heap.size) := by
                have := HKQ.out.size
                constructor
                simp only [World.size_alloc]; omega
              clear hA hng hT0 hTn hy3 hy4
              go_wp2_with (at_builtin; refine wpList_append_lies _ rfl (.tmp 102) (.tmp 104) 48 rfl w.heap.size 3 i0 (.int .i64 0) 1 8 Tryz.underlying48 hi hz0 hz1 hz2 rfl (by decide) (.slice (some ⟨g, 0, none⟩) k cap) k (intsV xs) (by simp [Act.eval]) HOA.out ⟨wq.heap.size, 0, none⟩ 1 1 [.int .i64 y2] (by simp [Act.eval]) rfl (cell_one_new _ _ _) (by simp [Value.oneCell']) (by decide) (by unfold maxLen; omega) (by omega) HSZ.out _ rfl ?_)
              intro g3 cap3 w3 hown hgrow hat hlt
              rw [← HP2.out] at hown
              have HO3 := Bx.mk hown
              have HK3 := Bx.mk ((HKQ.out.trans (Kp.alloc [] wq (.cells #[.int .i64 y2] 3))).new (growKp HOA.out hgrow).1 (growKp HOA.out hgrow).2.2)
              clear hown hgrow hat hlt HOA HSZ
              go_wp2_with fail
              go_roundw
              case rel =>
                refine ⟨k + 1, g3, cap3, xs ++ [y2], y2, HKN.out, by go_num, rfl, hr1, hr2, rfl, by rw [List.length_append, HXL.out]; rfl, fun x hx => ?_, HO3.out, HK3.out⟩
                rcases List.mem_append.1 hx with h | h
                · exact HXB.out x h
                · obtain rfl : x = y2 := by simpa using h
                  exact ⟨hr1, hr2⟩
              case measure =>
                have := HKN.out
                simp [intOf]; omega
      · obtain rfl : k = size := by omega
        go_wp2_with fail
        go_ret
        rw [Sounded, HTE.out]
        refine ⟨xs, HXL.out, HXB.out, g, cap, ?_, ?_, HKP.out⟩
        · rw [HXL.out]; rfl
        · rw [HXL.out]; exact HOW.out
end Go.Proofs.YtemcpcgcnjahjaaGreatDoor
