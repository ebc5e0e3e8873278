/-
  The reference's numbers of a header.
-/
import Derived.Test.YtemcpcgcnjahjaaGreatDoorSpecC
import Derived.Test.YtemcpcgcnjahjaaGreatDoorBitioB
import Derived.Test.YtemcpcgcnjahjaaGreatDoorHBlock
namespace Go.Proofs.YtemcpcgcnjahjaaGreatDoor
open Go.RowKit

/-- The size of a number. -/
def sizeV (k : Nat) : Int := if k = 1 then 192 else if k < 6 then 144 * 2 ^ k else if k < 8 then 0 else 2 ^ k

set_option maxRecDepth 100000 in
set_option maxHeartbeats 4000000 in
/-- spec.sizeOf. -/
theorem specSizeOf (k : Nat) (h1 : 1 ≤ k) (h2 : k < 16) (w : World) : Calls Tryz.prog 80 #[.int .i64 k] w fun e w' => e = .returned (.int .i64 (sizeV k)) ∧ w' = w := by
  rcases (by omega : k = 1 ∨ k = 2 ∨ k = 3 ∨ k = 4 ∨ k = 5 ∨ k = 6 ∨ k = 7 ∨ k = 8 ∨ k = 9 ∨ k = 10 ∨ k = 11 ∨ k = 12 ∨ k = 13 ∨ k = 14 ∨ k = 15) with rfl | rfl | rfl | rfl | rfl | rfl | rfl | rfl | rfl | rfl | rfl | rfl | rfl | rfl | rfl
  all_goals
    clear h1 h2
    go_enter Tryz.func80, Tryz.ntmps80
    go_wp2_with fail
    go_ret
    exact ⟨rfl, rfl⟩

def ratesL : List Int := [0, 88200, 176400, 192000, 8000, 16000, 22050, 24000, 32000, 44100, 48000, 96000]

set_option maxRecDepth 100000 in
set_option maxHeartbeats 4000000 in
/-- spec.rates. -/
theorem specRates (w : World) : Calls Tryz.prog 81 #[] w fun e w' => e = .returned (.slice (some ⟨w.heap.size, 0, none⟩) 12 12) ∧ w' = w.alloc (.cells (ratesL.map (Value.int .i64)).toArray 3) := by
  go_enter Tryz.func81, Tryz.ntmps81
  go_wp2_with fail
  go_ret
  exact ⟨rfl, rfl⟩

theorem spec_utf (m : Nat) (h : m < 2048) : bits .and .u64 (m : Int) 63 = ((m % 64 : Nat) : Int) := by
  rw [show (63 : Int) = ((63 : Nat) : Int) from rfl, u64_and_nat _ _ (by omega) (by omega), nat_mask6]

/-- Bytes that are new. -/
def NewBytes (bs : List UInt8) (w : World) (e : Ending) (w' : World) : Prop := ∃ g cap, e = .returned (.slice (some ⟨g, 0, none⟩) bs.length cap) ∧ w'.ownsRow w.heap.size 5 1 (.slice (some ⟨g, 0, none⟩) bs.length cap) bs.length (Lib.byteCells bs) ∧ Kp [] w w'

theorem newOne (w : World) (m : Nat) (hm : m < 256) : (w.alloc (.cells #[.int .u8 (m : Int)] 5)).ownsRow w.heap.size 5 1 (.slice (some ⟨w.heap.size, 0, none⟩) 1 1) 1 (Lib.byteCells [UInt8.ofNat m]) := by
  have h := World.ownsRow_lit (base := w.heap.size) (e := 5) (size := 1) w #[.int .u8 (m : Int)] 1 (Nat.le_refl _) (by decide) rfl
  have e : Lib.byteCells [UInt8.ofNat m] = [.int .u8 (m : Int)] := by
    simp only [Lib.byteCells, List.map_cons, List.map_nil, UInt8.toNat_ofNat']
    rw [Nat.mod_eq_of_lt (by omega)]
  rw [e]
  exact h

theorem newRow1 (w : World) (m B : Nat) (hB : B ≤ w.heap.size) (hm : m < 256) : (w.alloc (.cells #[.int .u8 (m : Int)] 5)).ownsRow B 5 1 (.slice (some ⟨w.heap.size, 0, none⟩) 1 1) 1 (Lib.byteCells [UInt8.ofNat m]) := by
  have h := newOne w m hm
  rcases h.2 with ⟨h', _⟩ | ⟨g, cap, cur, h', hb, rest⟩
  · cases h'
  · exact ⟨h.1, .inr ⟨g, cap, cur, h', Nat.le_trans hB hb, rest⟩⟩

set_option maxRecDepth 100000 in
set_option maxHeartbeats 4000000 in
/-- spec.Coded. -/
theorem specCoded (m : Nat) (h : m < 2048) (w : World) : Calls Tryz.prog 82 #[.int .u64 m] w (NewBytes (codedB m) w) := by
  obtain ⟨i0, hi, hz0, hz1, hz2⟩ := info_parts Tryz.info5c
  have HC : Hid (codedB m = if m < 128 then [UInt8.ofNat m] else [UInt8.ofNat (192 + m / 64), UInt8.ofNat (128 + m % 64)]) := rfl
  by_cases hm : m < 128
  · have HE : Hid (codedB m = [UInt8.ofNat m]) := by show _ = _; rw [HC.out, if_pos hm]
    go_enter Tryz.func82, Tryz.ntmps82
    go_wp2_with fail
    go_ret
    have hn := newOne w m (by omega)
    rw [NewBytes, HE.out]
    exact ⟨w.heap.size, 1, rfl, hn, Kp.alloc _ _ _⟩
  · have HE : Hid (codedB m = [UInt8.ofNat (192 + m / 64), UInt8.ofNat (128 + m % 64)]) := by show _ = _; rw [HC.out, if_neg hm]
    have hs1 : (m : Int) / 2048 = 0 := by omega
    have hA : bits .and .u64 (m : Int) 63 = (m : Int) % 64 := by
      have := spec_utf m h
      simpa using this
    have hO : bits .or .u64 128 ((m : Int) % 64) = 128 + (m : Int) % 64 := by
      have := or_join 128 (m % 64) 6 (by decide) (by omega) (by omega) (by omega)
      simpa using this
    go_enter Tryz.func82, Tryz.ntmps82
    go_wp2_with fail
    go_loop [3] (fun n => n = .int .i64 2) (fun _ => 0)
    case atStart => rfl
    case round =>
      obtain rfl := hrel
      clear hs1
      go_wp2_with fail
      go_loopw [0, 4, 21] (fun a o j wx => (a = .int .u64 m ∧ o = .slice (some ⟨w.heap.size, 0, none⟩) 0 0 ∧ j = .int .i64 0 ∧ w.alloc (.cells #[] 5) = wx) ∨ ∃ g cap, a = .int .u64 (m / 64 : Nat) ∧ o = .slice (some ⟨g, 0, none⟩) 1 cap ∧ j = .int .i64 1 ∧ wx.ownsRow w.heap.size 5 1 (.slice (some ⟨g, 0, none⟩) 1 cap) 1 (Lib.byteCells [UInt8.ofNat (128 + m % 64)]) ∧ Kp [] w wx) (fun _ _ j _ => 1 - (intOf j).toNat)
      case atStart => exact .inl ⟨rfl, rfl, rfl, rfl⟩
      case round =>
        rcases hrel with ⟨rfl, rfl, rfl, rfl⟩ | ⟨g, cap, rfl, rfl, rfl, hown, hk⟩
        · have hn := newRow1 (w.alloc (.cells #[] 5)) (128 + m % 64) w.heap.size (by simp) (by omega)
          have HN := Lib.hid hn
          clear hn
          go_wp2_with fail
          go_roundw
          case rel =>
            refine .inr ⟨w.heap.size + 1, 1, by go_num, rfl, rfl, ?_, (Kp.alloc _ _ _).trans (Kp.alloc _ _ _)⟩
            have hn := HN.out
            rw [World.size_alloc] at hn
            have e : ((128 + m % 64 : Nat) : Int) = 128 + (m : Int) % 64 := by omega
            rw [e] at hn
            exact hn
          case measure => simp [intOf]
        · have HO := Lib.hid hown
          have HK := Lib.hid hk
          clear hown hk hA hO
          have hB : bits .and .u64 16320 255 = 192 := by kernel_rfl
          have hO : bits .or .u8 192 ((m : Int) / 64) = 192 + (m : Int) / 64 := u8_or192 _ (by omega) (by omega)
          have HO1 : Hid ((wr.alloc (.cells #[.int .u8 (192 + (m : Int) / 64)] 5)).ownsRow w.heap.size 5 1 (.slice (some ⟨wr.heap.size, 0, none⟩) 1 1) 1 [.int .u8 (192 + (m : Int) / 64)]) := by
            exact World.ownsRow_lit wr #[.int .u8 (192 + (m : Int) / 64)] 1 HK.out.size (by decide) rfl
          have HN1 : Hid (∀ (j : Nat) u, (Lib.byteCells [UInt8.ofNat (128 + m % 64)])[j]? = some u → (wr.alloc (.cells #[.int .u8 (192 + (m : Int) / 64)] 5)).cell? ((⟨g, 0, none⟩ : Addr).add j) = some u) :=
            (HO.out.alloc _).cells rfl
          have HS1 : Hid (w.heap.size ≤ (wr.alloc (.cells #[.int .u8 (192 + (m : Int) / 64)] 5)).heap.size) := by
            have := HK.out.size
            show _ ≤ _
            simp only [World.size_alloc]; omega
          go_wp2_with (at_builtin; refine wpList_append_lies _ rfl _ _ 23 rfl w.heap.size 5 i0 (.int .u8 0) 1 1 Tryz.underlying23 hi hz0 hz1 hz2 rfl (by decide) _ 1 _ rfl HO1.out ⟨g, 0, none⟩ 1 cap (Lib.byteCells [UInt8.ofNat (128 + m % 64)]) rfl rfl HN1.out (byteCells_one _) (by decide) (by decide) (by decide) HS1.out _ rfl ?_)
          intro g2 cap2 w2 hown hgrow _ _
          have HK2 : Hid (Kp [] w w2) := (HK.out.trans (Kp.alloc _ _ _)).new (Kp.grown (S := [wr.heap.size]) hgrow (by intro k hk; simpa [Value.ownBlock] using hk.symm)) (by have := HK.out.size; simpa using this)
          have HO2 := Lib.hid hown
          clear hown hgrow
          go_wp2_with fail
          go_ret
          rw [NewBytes, HE.out]
          refine ⟨g2, cap2, rfl, ?_, HK2.out⟩
          have e : Lib.byteCells [UInt8.ofNat (192 + m / 64), UInt8.ofNat (128 + m % 64)] = [.int .u8 (192 + (m : Int) / 64)] ++ Lib.byteCells [UInt8.ofNat (128 + m % 64)] := by
            simp only [Lib.byteCells, List.map_cons, List.map_nil, UInt8.toNat_ofNat', List.singleton_append]
            rw [Nat.mod_eq_of_lt (by omega : 192 + m / 64 < 2 ^ 8)]
            simp
          rw [e]
          have ho := HO2.out
          rw [show (128 : UInt8) + UInt8.ofNat (m % 64) = UInt8.ofNat (128 + m % 64) from by rw [UInt8.ofNat_add]; rfl] at ho
          exact ho
end Go.Proofs.YtemcpcgcnjahjaaGreatDoor
