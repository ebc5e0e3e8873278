/-
  The writer of bits (package bitio): each method hands the bits on, the highest first.
-/
import Derived.Test.YtemcpcgcnjahjaaGreatDoorBase
namespace Go.Proofs.YtemcpcgcnjahjaaGreatDoor
open Go.RowKit

theorem bit_or (s : List Bool) (hs : s.length < 8) (r : Int) (k : Nat) (h0 : 0 ≤ r) (h1 : r < 18446744073709551616) :
    bits .or .u8 ((valB s : Int) * 2 % 256) (bits .and .u64 (r / 2 ^ k) 1 % 256) = (valB (s ++ [r / 2 ^ k % 2 == 1]) : Nat) := by
  have hv : valB s < 2 ^ 7 := Nat.lt_of_lt_of_le (valB_lt s) (Nat.pow_le_pow_right (by decide) (by omega))
  have hq0 : 0 ≤ r / 2 ^ k := Int.ediv_nonneg h0 (Int.le_of_lt (Int.pow_pos (by decide)))
  have hq1 : r / 2 ^ k ≤ r := Int.ediv_le_self _ h0
  generalize r / 2 ^ k = q at hq0 hq1
  obtain ⟨m, rfl⟩ := Int.eq_ofNat_of_zero_le hq0
  have e1 : bits .and .u64 (m : Int) 1 = ((m % 2 : Nat) : Int) := by
    have := u64_and_nat m 1 (by omega) (by omega)
    rw [Nat.and_one_is_mod] at this
    exact this
  rw [e1, valB_snoc]
  have e2 : ((((m : Int) % 2 == 1) : Bool).toNat) = m % 2 := by
    rcases Nat.mod_two_eq_zero_or_one m with h | h
    · have : ((m : Int) % 2) = 0 := by omega
      simp [this, h]
    · have : ((m : Int) % 2) = 1 := by omega
      simp [this, h]
  rw [e2]
  have e3 : ((m % 2 : Nat) : Int) % 256 = ((m % 2 : Nat) : Int) := by omega
  have e4 : (valB s : Int) * 2 % 256 = (valB s : Int) * 2 := by omega
  rw [e3, e4, bits_join .u8 8 (by decide) wraps_u8 1 _ _ (by omega) (by omega) (by omega) (by omega) (by omega) (by omega)]
  omega

set_option maxRecDepth 100000 in
set_option maxHeartbeats 400000 in
theorem wbits_nat {B : Nat} (σ : Snk B) (W : Nat) (r : Int) (n : Nat) (s : List UInt8 × List Bool) (w : World) (hr : 0 ≤ r) (hr2 : r < 18446744073709551616) (hn : n ≤ 64) (h : BW σ W s w)
    (hl : cnt s + n ≤ 70368744177664) :
   Calls Tryz.prog 53 #[.pointer (some ⟨W, 0, none⟩), .int .u64 r, .int .u8 n] w fun e w' => e = .returned .nilIface ∧ BW σ W (wrB s (bitsN r n)) w' ∧ Fr B (W :: σ.S) w w' := by
  go_enter Tryz.func53, Tryz.ntmps53
  go_wp2_with fail
  go_loopw [2] (fun v wx => ∃ k : Nat, k ≤ n ∧ v = .int .u8 k ∧ BW σ W (wrB s ((bitsN r n).take (n - k))) wx ∧ Fr B (W :: σ.S) w wx) (fun v _ => (intOf v).toNat)
  case atStart => exact ⟨n, by omega, rfl, by simpa [wrB_nil] using h, Fr.refl _ _ _⟩
  case round =>
    obtain ⟨k, hk, rfl, hb, hfr⟩ := hrel
    by_cases hk0 : k = 0
    · subst hk0
      have hend : Hid (BW σ W (wrB s (bitsN r n)) wr ∧ Fr B (W :: σ.S) w wr) := ⟨by rwa [Nat.sub_zero, List.take_of_length_le (by rw [bitsN_length]; omega)] at hb, hfr⟩
      clear hb h hfr
      go_wp2_with fail
      go_ret
      exact ⟨rfl, hend.out⟩
    · have hk0' : 0 < k := by omega
      have hstep : Hid (wrB s ((bitsN r n).take (n - (k - 1))) = pushB (wrB s ((bitsN r n).take (n - k))) (r / 2 ^ (k - 1) % 2 == 1)) := by
        show _ = _
        rw [bitsN_step r n k hk0' hk, wrB_snoc]
      have hlen : Hid ((wrB s ((bitsN r n).take (n - k))).1.length + 1 ≤ 70368744177664) := by
        have h1 := cnt_wrB s ((bitsN r n).take (n - k))
        have h4 : 8 * (wrB s ((bitsN r n).take (n - k))).1.length ≤ cnt (wrB s ((bitsN r n).take (n - k))) := by unfold cnt; omega
        have h2 : ((bitsN r n).take (n - k)).length ≤ n := by rw [List.length_take, bitsN_length]; omega
        show _ ≤ _
        omega
      generalize wrB s ((bitsN r n).take (n - k)) = s1 at hb hstep hlen
      have hA := σ.ahead
      have hL := σ.look
      have hE := σ.enter
      obtain ⟨hc, hf, hbase, hout, hsk⟩ := hb
      have c0 := Lib.cell_of_heap hc 0
      have c1 := Lib.cell_of_heap hc 1
      have c2 := Lib.cell_of_heap hc 2
      have z1 := Lib.frozen_of_heap hc 1
      have z2 := Lib.frozen_of_heap hc 2
      have hlt := Lib.lt_of_heap hc
      have HC := Lib.hid hc
      simp only [List.getElem?_toArray, List.getElem?_cons_zero, List.getElem?_cons_succ, Snk.v] at c0 c1 c2
      have hor := bit_or s1.2 hf r (k - 1) hr hr2
      clear hc h
      by_cases h7 : s1.2.length = 7
      · go_wp2_with fail
        refine (σ.write wr.heap.size 0 1 1 [UInt8.ofNat (valB (s1.2 ++ [r / 2 ^ (k - 1) % 2 == 1]))] (bs := s1.1) ?_ rfl ?_ ?_ ?_).mono ?_
        · exact σ.alloc (σ.set (σ.set (σ.set (σ.set hsk HC.out (by decide) hout) (heap_set HC.out) (by decide) hout) (heap_set (heap_set HC.out)) (by decide) hout) (heap_set (heap_set (heap_set HC.out))) (by decide) hout) _
        · intro hm
          have := (σ.live hsk).2 _ hm
          simp at this
        · have hv : valB (s1.2 ++ [r / 2 ^ (k - 1) % 2 == 1]) < 2 ^ 8 := Nat.lt_of_lt_of_le (valB_lt _) (Nat.pow_le_pow_right (by decide) (by simp; omega))
          exact new_byte _ _ _ _ (by simp) hv
        · exact hlen.out
        · rintro e w' ⟨rfl, hI, hF⟩
          have e : pushB s1 (r / 2 ^ (k - 1) % 2 == 1) = (s1.1 ++ [UInt8.ofNat (valB (s1.2 ++ [r / 2 ^ (k - 1) % 2 == 1]))], []) := by unfold pushB; rw [if_pos h7]
          have hB := (σ.live hsk).1
          have F0 := Fr.trans (Fr.mono (Kp.fr (S := [W]) (B := B) (((((Kp.setCell wr ⟨W, 1, none⟩ (Value.int .u8 (valB (s1.2 ++ [r / 2 ^ (k - 1) % 2 == 1]))) (by simp)).trans (Kp.setCell _ ⟨W, 2, none⟩ (Value.int .u8 8) (by simp))).trans (Kp.setCell _ ⟨W, 1, none⟩ (Value.int .u8 0) (by simp))).trans (Kp.setCell _ ⟨W, 2, none⟩ (Value.int .u8 0) (by simp))).trans (Kp.alloc [W] _ (.cells #[Value.int .u8 (valB (s1.2 ++ [r / 2 ^ (k - 1) % 2 == 1]))] 5))) hB (by simpa using hbase)) (Nat.le_refl _) (S' := W :: σ.S) (fun k _ hk => by simp at hk; simp [hk])) (hF.mono (Nat.le_refl _) (fun k _ hk => List.mem_cons_of_mem _ hk))
          have HW := hF.at (heap_alloc (heap_set (heap_set (heap_set (heap_set HC.out))))) hout (by decide)
          have HH : Hid (BW σ W (pushB s1 (r / 2 ^ (k - 1) % 2 == 1)) w' ∧ Fr B (W :: σ.S) w w') := by
            rw [e]
            exact ⟨⟨by rw [HW]; simp [valB], by simp, hbase, hout, hI⟩, hfr.trans F0⟩
          clear e HW F0 hI hF
          go_wp2_with fail
          go_roundw
          case rel =>
            exact ⟨k - 1, by omega, by congr 1; omega, by rw [hstep.out]; exact HH.out.1, HH.out.2⟩
          case measure => simp [intOf]; omega
      · have h7' : ((s1.2.length : Int) + 1 == 8) = false := by simp; omega
        go_wp2_with fail
        go_roundw
        case rel =>
          refine ⟨k - 1, by omega, by congr 1; omega, ?_, ?_⟩
          · rw [hstep.out]
            have e : pushB s1 (r / 2 ^ (k - 1) % 2 == 1) = (s1.1, s1.2 ++ [r / 2 ^ (k - 1) % 2 == 1]) := by unfold pushB; rw [if_neg h7]
            rw [e]
            refine ⟨?_, by simp; omega, hbase, hout, ?_⟩
            · rw [heap_set (heap_set HC.out)]
              simp
            · exact σ.set (σ.set hsk HC.out (by decide) hout) (heap_set HC.out) (by decide) hout
          · refine hfr.trans (Fr.mono (Kp.fr (S := [W]) (B := B) ((Kp.setCell _ _ _ (by simp)).trans (Kp.setCell _ _ _ (by simp))) ?_ ?_) (Nat.le_refl _) ?_)
            · exact (σ.live hsk).1
            · simpa using hbase
            · intro k _ hk; simp at hk; simp [hk]
        case measure => simp [intOf]; omega

/-- What a call on a bitio.Writer comes to that has written these bits. -/
def Wrote {B : Nat} (σ : Snk B) (W : Nat) (s : List UInt8 × List Bool) (l : List Bool) (w : World) (e : Ending) (w' : World) : Prop :=
  e = .returned .nilIface ∧ BW σ W (wrB s l) w' ∧ Fr B (W :: σ.S) w w'

/-- (*bitio.Writer).WriteBits. -/
theorem wbits {B : Nat} (σ : Snk B) (W : Nat) (r n : Int) (s : List UInt8 × List Bool) (w : World) (h : BW σ W s w) (hr : 0 ≤ r) (hr2 : r < 18446744073709551616) (hn0 : 0 ≤ n) (hn : n ≤ 64)
    (hl : cnt s + n.toNat ≤ 70368744177664) :
    Calls Tryz.prog 53 #[.pointer (some ⟨W, 0, none⟩), .int .u64 r, .int .u8 n] w (Wrote σ W s (bitsN r n.toNat) w) := by
  obtain ⟨m, rfl⟩ := Int.eq_ofNat_of_zero_le hn0
  exact wbits_nat σ W r m s w hr hr2 (by omega) h hl

set_option maxHeartbeats 400000 in
/-- (*bitio.Writer).WriteByte. -/
theorem wbyte {B : Nat} (σ : Snk B) (W : Nat) (c : Int) (s : List UInt8 × List Bool) (w : World) (h : BW σ W s w) (hc : 0 ≤ c) (hc2 : c < 256) (hl : cnt s + 8 ≤ 70368744177664) :
    Calls Tryz.prog 51 #[.pointer (some ⟨W, 0, none⟩), .int .u8 c] w (Wrote σ W s (bitsN c 8) w) := by
  go_enter Tryz.func51, Tryz.ntmps51
  go_wp2_with fail
  refine (wbits σ W c 8 s w h hc (by omega) (by omega) (by omega) hl).mono ?_
  rintro e w' ⟨rfl, hb⟩
  have HB := Lib.hid hb; clear hb h
  go_wp2_with fail
  go_ret
  exact ⟨rfl, HB.out⟩

set_option maxHeartbeats 400000 in
/-- (*bitio.Writer).WriteBool. -/
theorem wbool {B : Nat} (σ : Snk B) (W : Nat) (b : Bool) (s : List UInt8 × List Bool) (w : World) (h : BW σ W s w) (hl : cnt s + 1 ≤ 70368744177664) :
    Calls Tryz.prog 63 #[.pointer (some ⟨W, 0, none⟩), .bool b] w (Wrote σ W s [b] w) := by
  cases b
  all_goals
    go_enter Tryz.func63, Tryz.ntmps63
    go_wp2_with fail
    refine (wbits σ W _ 1 s w h (by omega) (by omega) (by omega) (by omega) hl).mono ?_
    rintro e w' ⟨rfl, hb⟩
    have HB := Lib.hid hb; clear hb h
    go_wp2_with fail
    go_ret
    exact ⟨rfl, HB.out⟩

/-- What a call comes to that has filled the last byte with noughts. -/
def Aligned {B : Nat} (σ : Snk B) (W : Nat) (s : List UInt8 × List Bool) (w : World) (w' : World) : Prop :=
  BW σ W (wrB s (padB s)) w' ∧ Fr B (W :: σ.S) w w'

set_option maxHeartbeats 400000 in
/-- (*bitio.Writer).Align. -/
theorem walign {B : Nat} (σ : Snk B) (W : Nat) (s : List UInt8 × List Bool) (w : World) (h : BW σ W s w) (hl : cnt s + 8 ≤ 70368744177664) :
    Calls Tryz.prog 29 #[.pointer (some ⟨W, 0, none⟩)] w fun e w' => (∃ n : Int, e = .returned (.tuple #[.int .u8 n, .nilIface])) ∧ Aligned σ W s w w' := by
  have c2 := Lib.cell_of_heap h.cells 2
  simp only [List.getElem?_toArray, List.getElem?_cons_zero, List.getElem?_cons_succ] at c2
  have hf := h.few
  by_cases h0 : s.2.length = 0
  · have HH : Hid (Aligned σ W s w w) := by
      refine ⟨?_, Fr.refl _ _ _⟩
      unfold padB; rw [if_pos h0, wrB_nil]; exact h
    rw [h0] at c2
    clear h
    go_enter Tryz.func29, Tryz.ntmps29
    go_wp2_with fail
    go_ret2
    exact ⟨⟨_, rfl⟩, HH.out⟩
  · have hp : 0 < s.2.length := by omega
    have hpad : Hid (padB s = List.replicate (8 - s.2.length) false) := by show padB s = _; unfold padB; rw [if_neg h0]
    go_enter Tryz.func29, Tryz.ntmps29
    go_wp2_with fail
    refine (wbits σ W _ _ s w h (by omega) (by omega) (by omega) (by omega) (by omega)).mono ?_
    rintro e w' ⟨rfl, hb⟩
    have HB : Hid (Aligned σ W s w w') := by
      show Aligned σ W s w w'
      unfold Aligned
      rw [hpad.out]
      rw [bitsN_zero] at hb
      rw [show ((8 : Int) - (s.2.length : Int)).toNat = 8 - s.2.length by omega] at hb
      exact hb
    clear hb h
    go_wp2_with fail
    go_ret2
    exact ⟨⟨_, rfl⟩, HB.out⟩

set_option maxHeartbeats 400000 in
/-- (*bitio.Writer).Close. -/
theorem wclose {B : Nat} (σ : Snk B) (W : Nat) (s : List UInt8 × List Bool) (w : World) (h : BW σ W s w) (hl : cnt s + 8 ≤ 70368744177664) :
    Calls Tryz.prog 62 #[.pointer (some ⟨W, 0, none⟩)] w fun e w' => e = .returned .nilIface ∧ Aligned σ W s w w' := by
  go_enter Tryz.func62, Tryz.ntmps62
  go_wp2_with fail
  refine (walign σ W s w h hl).mono ?_
  rintro e w' ⟨⟨n, rfl⟩, hb⟩
  have HB := Lib.hid hb; clear hb h
  go_wp2_with fail
  go_ret
  exact ⟨rfl, HB.out⟩

end Go.Proofs.YtemcpcgcnjahjaaGreatDoor
