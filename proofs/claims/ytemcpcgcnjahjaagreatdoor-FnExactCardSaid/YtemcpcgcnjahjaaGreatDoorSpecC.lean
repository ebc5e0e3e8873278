/-
  The reference's sums.
-/
import Derived.Test.YtemcpcgcnjahjaaGreatDoorSpecW
import Derived.Test.YtemcpcgcnjahjaaGreatDoorBits
namespace Go.Proofs.YtemcpcgcnjahjaaGreatDoor
open Go.RowKit

theorem i64_and_nat (a b : Nat) (ha : a < 4611686018427387904) (hb : b < 4611686018427387904) : bits .and .i64 (a : Int) (b : Int) = ((a &&& b : Nat) : Int) :=
  (bits_nat .i64 62 (by decide) (fun n h0 h1 => by rw [IntKind.wrap_i64]; omega) a b (by omega) (by omega)).1
theorem i64_xor_nat (a b : Nat) (ha : a < 4611686018427387904) (hb : b < 4611686018427387904) : bits .xor .i64 (a : Int) (b : Int) = ((a ^^^ b : Nat) : Int) := by
  have h1 : a ^^^ b < 2 ^ 62 := Nat.xor_lt_two_pow (by omega) (by omega)
  have ha' : a % 2 ^ 64 = a := Nat.mod_eq_of_lt (by omega)
  have hb' : b % 2 ^ 64 = b := Nat.mod_eq_of_lt (by omega)
  show IntKind.i64.wrap ((BitVec.ofInt 64 (a : Int) ^^^ BitVec.ofInt 64 (b : Int)).toNat : Int) = _
  rw [BitVec.ofInt_natCast, BitVec.ofInt_natCast, BitVec.toNat_xor, BitVec.toNat_ofNat, BitVec.toNat_ofNat, ha', hb', IntKind.wrap_i64]
  omega

theorem xor01 (a b : Bool) : bits .xor .i64 (a.toNat : Int) (b.toNat : Int) = ((a != b).toNat : Int) := by cases a <;> cases b <;> rfl

/-- Bytes that can be read. -/
def BytesAt (g o : Nat) (bs : List UInt8) (w : World) : Prop := ∀ (i : Nat) (x : UInt8), bs[i]? = some x → w.cell? ⟨g, o + i, none⟩ = some (.int .u8 x.toNat)

theorem topI8 (c : BitVec 8) : (c.toNat : Int) / 128 % 2 = (c.msb.toNat : Int) := by
  have hc := c.isLt
  rw [BitVec.msb_eq_decide]
  by_cases h : 2 ^ (8 - 1) ≤ c.toNat
  · simp only [h, decide_true, Bool.toNat_true]; omega
  · simp only [h, decide_false, Bool.toNat_false]; omega
theorem shl8 (c : BitVec 8) : (c.toNat : Int) * 2 % 256 = ((c <<< 1).toNat : Int) := by
  rw [BitVec.toNat_shiftLeft, Nat.shiftLeft_eq]; omega
theorem feed_val8 (c : BitVec 8) (b : Bool) (e : Nat) (he : (c <<< 1).toNat = e) (h : (c.msb != b) = true) : bits .xor .i64 (e : Int) 7 = ((feedP 0x07#8 c b).toNat : Int) := by
  subst he
  have h1 := (c <<< 1).isLt
  rw [show (7 : Int) = ((7 : Nat) : Int) from rfl, i64_xor_nat _ _ (by omega) (by omega)]
  unfold feedP
  rw [if_pos h, BitVec.toNat_xor]; rfl

set_option maxRecDepth 100000 in
set_option maxHeartbeats 4000000 in
/-- spec.Crc, of 8 bits. -/
theorem scrc8 (g cap : Nat) (bs : List UInt8) (w : World) (hb : BytesAt g 0 bs w) (hl : bs.length ≤ 70368744177664) :
    Calls Tryz.prog 87 #[.slice (some ⟨g, 0, none⟩) bs.length cap, .int .i64 8, .int .i64 7] w fun e w' => e = .returned (.int .i64 (crc8 bs).toNat) ∧ ∃ q, w' = w.drewN q := by
  have HB := Lib.hid hb; clear hb
  go_enter Tryz.func87, Tryz.ntmps87
  go_wp2_with fail
  go_loopw [7, 14] (fun v j wx => ∃ i q : Nat, i ≤ bs.length ∧ j = .int .i64 i ∧ v = .int .i64 ((crc8 (bs.take i)).toNat : Nat) ∧ w.drewN q = wx) (fun _ j _ => bs.length - (intOf j).toNat)
  case atStart => exact ⟨0, 0, by omega, rfl, rfl, rfl⟩
  case round =>
    obtain ⟨i, q, hi, rfl, rfl, rfl⟩ := hrel
    by_cases hin : i < bs.length
    · have hc := HB.out i bs[i] (List.getElem?_eq_getElem hin)
      rw [Nat.zero_add] at hc
      have HT : Hid (crc8 (bs.take (i + 1)) = (bitsN (bs[i].toNat : Int) 8).foldl (feedP 0x07#8) (crc8 (bs.take i))) := by
        show _ = _
        rw [List.take_succ_eq_append_getElem hin, crc8_append, byte8]; rfl
      have hx := bs[i].toNat_lt
      generalize crc8 (bs.take i) = c at HT ⊢
      generalize bs[i].toNat = x at hc HT hx
      go_wp2_with fail
      go_loopw [7, 10] (fun v kk wx => ∃ k q : Nat, k ≤ 8 ∧ kk = .int .i64 ((k : Int) - 1) ∧ v = .int .i64 ((((bitsN (x : Int) 8).take (8 - k)).foldl (feedP 0x07#8) c).toNat : Nat) ∧ w.drewN q = wx) (fun _ kk _ => (intOf kk + 1).toNat)
      case atStart => exact ⟨8, q, by omega, rfl, rfl, rfl⟩
      case round =>
        obtain ⟨k, q2, hk, rfl, rfl, rfl⟩ := hrel
        by_cases hk0 : k = 0
        · subst hk0
          have HE : Hid (((bitsN (x : Int) 8).take (8 - 0)).foldl (feedP 0x07#8) c = crc8 (bs.take (i + 1))) := by
            show _ = _
            rw [HT.out, List.take_of_length_le (by rw [bitsN_length]; omega)]
          go_wp2_with fail
          go_roundw
          case rel => exact ⟨i + 1, q2, by omega, by go_num, by rw [HE.out], rfl⟩
          case measure => simp [intOf]; omega
        · have HS : Hid (((bitsN (x : Int) 8).take (8 - (k - 1))).foldl (feedP 0x07#8) c = feedP 0x07#8 (((bitsN (x : Int) 8).take (8 - k)).foldl (feedP 0x07#8) c) ((x : Int) / 2 ^ (k - 1) % 2 == 1)) := by
            show _ = _
            rw [bitsN_step (x : Int) 8 k (by omega) hk, List.foldl_append]; rfl
          generalize ((bitsN (x : Int) 8).take (8 - k)).foldl (feedP 0x07#8) c = d at HS ⊢
          have hA1 := i64_and1
          have ht := topI8 d
          have hbb : (x : Int) / 2 ^ (k - 1) % 2 = ((((x : Int) / 2 ^ (k - 1) % 2 == 1)).toNat : Int) := by
            have h01 : (x : Int) / 2 ^ (k - 1) % 2 = 0 ∨ (x : Int) / 2 ^ (k - 1) % 2 = 1 := by omega
            rcases h01 with h | h <;> rw [h] <;> rfl
          generalize hbe : ((x : Int) / 2 ^ (k - 1) % 2 == 1) = b at HS hbb
          have HBE := Lib.hid hbe
          clear hbe
          have hxo := xor01 d.msb b
          have hk1 : (0 : Int) ≤ (k : Int) - 1 := by omega
          have hk2 : ((k : Int) - 1).toNat = k - 1 := by omega
          have hdl := d.isLt
          have hsh := shl8 d
          have hms := i64_and_mask ((d.toNat : Int) * 2) 8 (by decide)
          have hm2 : bits .and .i64 ((d.toNat : Int) * 2) 255 = ((d <<< 1).toNat : Int) := by rw [← hsh]; exact hms
          clear hms hsh
          generalize hee : (d <<< 1).toNat = e at hm2
          have HEE := Lib.hid hee
          clear hee
          rcases Bool.eq_false_or_eq_true (d.msb != b) with hm | hm
          · have hv := feed_val8 d b e HEE.out hm
            rw [hm] at hxo
            have hx1 : bits .xor .i64 (d.msb.toNat : Int) (b.toNat : Int) = 1 := hxo
            have HV := Lib.hid hv
            clear hxo hm
            go_wp2_with fail
            go_quiet (fail)
            go_wp2_with fail
            go_roundw
            case rel => exact ⟨k - 1, _, by omega, by congr 1; omega, by rw [HS.out], rfl⟩
            case measure => simp [intOf]; omega
          · have hv : Hid (feedP 0x07#8 d b = d <<< 1) := by
              show _ = _
              unfold feedP
              rw [if_neg (by rw [hm]; simp)]
            rw [hm] at hxo
            have hx1 : bits .xor .i64 (d.msb.toNat : Int) (b.toNat : Int) = 0 := hxo
            clear hxo hm
            go_wp2_with fail
            go_quiet (fail)
            go_wp2_with fail
            go_roundw
            case rel => exact ⟨k - 1, _, by omega, by congr 1; omega, by rw [HS.out, hv.out, HEE.out], rfl⟩
            case measure => simp [intOf]; omega
    · obtain rfl : i = bs.length := by omega
      have HE : Hid (crc8 (bs.take bs.length) = crc8 bs) := by show _ = _; rw [List.take_length]
      go_wp2_with fail
      go_ret
      exact ⟨by rw [HE.out]; rfl, q, rfl⟩

set_option maxRecDepth 100000 in
set_option maxHeartbeats 1000000 in
/-- spec.Crc8. -/
theorem scrc8a (g cap : Nat) (bs : List UInt8) (w : World) (hb : BytesAt g 0 bs w) (hl : bs.length ≤ 70368744177664) :
    Calls Tryz.prog 83 #[.slice (some ⟨g, 0, none⟩) bs.length cap] w fun e w' => e = .returned (.int .i64 (crc8 bs).toNat) ∧ ∃ q, w' = w.drewN q := by
  have HB := Lib.hid hb; clear hb
  go_enter Tryz.func83, Tryz.ntmps83
  go_wp2_with fail
  refine (scrc8 g cap bs w HB.out hl).mono ?_
  rintro e w' ⟨rfl, q, rfl⟩
  go_wp2_with fail
  go_ret
  exact ⟨rfl, q, rfl⟩

theorem topI16 (c : BitVec 16) : (c.toNat : Int) / 32768 % 2 = (c.msb.toNat : Int) := by
  have hc := c.isLt
  rw [BitVec.msb_eq_decide]
  by_cases h : 2 ^ (16 - 1) ≤ c.toNat
  · simp only [h, decide_true, Bool.toNat_true]; omega
  · simp only [h, decide_false, Bool.toNat_false]; omega
theorem shl16 (c : BitVec 16) : (c.toNat : Int) * 2 % 65536 = ((c <<< 1).toNat : Int) := by
  rw [BitVec.toNat_shiftLeft, Nat.shiftLeft_eq]; omega
theorem feed_val16 (c : BitVec 16) (b : Bool) (e : Nat) (he : (c <<< 1).toNat = e) (h : (c.msb != b) = true) : bits .xor .i64 (e : Int) 32773 = ((feedP 0x8005#16 c b).toNat : Int) := by
  subst he
  have h1 := (c <<< 1).isLt
  rw [show (32773 : Int) = ((32773 : Nat) : Int) from rfl, i64_xor_nat _ _ (by omega) (by omega)]
  unfold feedP
  rw [if_pos h, BitVec.toNat_xor]; rfl

set_option maxRecDepth 100000 in
set_option maxHeartbeats 4000000 in
/-- spec.Crc, of 16 bits. -/
theorem scrc16 (g cap : Nat) (bs : List UInt8) (w : World) (hb : BytesAt g 0 bs w) (hl : bs.length ≤ 70368744177664) :
    Calls Tryz.prog 87 #[.slice (some ⟨g, 0, none⟩) bs.length cap, .int .i64 16, .int .i64 32773] w fun e w' => e = .returned (.int .i64 (crc16 bs).toNat) ∧ ∃ q, w' = w.drewN q := by
  have HB := Lib.hid hb; clear hb
  go_enter Tryz.func87, Tryz.ntmps87
  go_wp2_with fail
  go_loopw [7, 14] (fun v j wx => ∃ i q : Nat, i ≤ bs.length ∧ j = .int .i64 i ∧ v = .int .i64 ((crc16 (bs.take i)).toNat : Nat) ∧ w.drewN q = wx) (fun _ j _ => bs.length - (intOf j).toNat)
  case atStart => exact ⟨0, 0, by omega, rfl, rfl, rfl⟩
  case round =>
    obtain ⟨i, q, hi, rfl, rfl, rfl⟩ := hrel
    by_cases hin : i < bs.length
    · have hc := HB.out i bs[i] (List.getElem?_eq_getElem hin)
      rw [Nat.zero_add] at hc
      have HT : Hid (crc16 (bs.take (i + 1)) = (bitsN (bs[i].toNat : Int) 8).foldl (feedP 0x8005#16) (crc16 (bs.take i))) := by
        show _ = _
        rw [List.take_succ_eq_append_getElem hin, crc16_append, byte16]; rfl
      have hx := bs[i].toNat_lt
      generalize crc16 (bs.take i) = c at HT ⊢
      generalize bs[i].toNat = x at hc HT hx
      go_wp2_with fail
      go_loopw [7, 10] (fun v kk wx => ∃ k q : Nat, k ≤ 8 ∧ kk = .int .i64 ((k : Int) - 1) ∧ v = .int .i64 ((((bitsN (x : Int) 8).take (8 - k)).foldl (feedP 0x8005#16) c).toNat : Nat) ∧ w.drewN q = wx) (fun _ kk _ => (intOf kk + 1).toNat)
      case atStart => exact ⟨8, q, by omega, rfl, rfl, rfl⟩
      case round =>
        obtain ⟨k, q2, hk, rfl, rfl, rfl⟩ := hrel
        by_cases hk0 : k = 0
        · subst hk0
          have HE : Hid (((bitsN (x : Int) 8).take (8 - 0)).foldl (feedP 0x8005#16) c = crc16 (bs.take (i + 1))) := by
            show _ = _
            rw [HT.out, List.take_of_length_le (by rw [bitsN_length]; omega)]
          go_wp2_with fail
          go_roundw
          case rel => exact ⟨i + 1, q2, by omega, by go_num, by rw [HE.out], rfl⟩
          case measure => simp [intOf]; omega
        · have HS : Hid (((bitsN (x : Int) 8).take (8 - (k - 1))).foldl (feedP 0x8005#16) c = feedP 0x8005#16 (((bitsN (x : Int) 8).take (8 - k)).foldl (feedP 0x8005#16) c) ((x : Int) / 2 ^ (k - 1) % 2 == 1)) := by
            show _ = _
            rw [bitsN_step (x : Int) 8 k (by omega) hk, List.foldl_append]; rfl
          generalize ((bitsN (x : Int) 8).take (8 - k)).foldl (feedP 0x8005#16) c = d at HS ⊢
          have hA1 := i64_and1
          have ht := topI16 d
          have hbb : (x : Int) / 2 ^ (k - 1) % 2 = ((((x : Int) / 2 ^ (k - 1) % 2 == 1)).toNat : Int) := by
            have h01 : (x : Int) / 2 ^ (k - 1) % 2 = 0 ∨ (x : Int) / 2 ^ (k - 1) % 2 = 1 := by omega
            rcases h01 with h | h <;> rw [h] <;> rfl
          generalize hbe : ((x : Int) / 2 ^ (k - 1) % 2 == 1) = b at HS hbb
          have HBE := Lib.hid hbe
          clear hbe
          have hxo := xor01 d.msb b
          have hk1 : (0 : Int) ≤ (k : Int) - 1 := by omega
          have hk2 : ((k : Int) - 1).toNat = k - 1 := by omega
          have hdl := d.isLt
          have hsh := shl16 d
          have hms := i64_and_mask ((d.toNat : Int) * 2) 16 (by decide)
          have hm2 : bits .and .i64 ((d.toNat : Int) * 2) 65535 = ((d <<< 1).toNat : Int) := by rw [← hsh]; exact hms
          clear hms hsh
          generalize hee : (d <<< 1).toNat = e at hm2
          have HEE := Lib.hid hee
          clear hee
          rcases Bool.eq_false_or_eq_true (d.msb != b) with hm | hm
          · have hv := feed_val16 d b e HEE.out hm
            rw [hm] at hxo
            have hx1 : bits .xor .i64 (d.msb.toNat : Int) (b.toNat : Int) = 1 := hxo
            have HV := Lib.hid hv
            clear hxo hm
            go_wp2_with fail
            go_quiet (fail)
            go_wp2_with fail
            go_roundw
            case rel => exact ⟨k - 1, _, by omega, by congr 1; omega, by rw [HS.out], rfl⟩
            case measure => simp [intOf]; omega
          · have hv : Hid (feedP 0x8005#16 d b = d <<< 1) := by
              show _ = _
              unfold feedP
              rw [if_neg (by rw [hm]; simp)]
            rw [hm] at hxo
            have hx1 : bits .xor .i64 (d.msb.toNat : Int) (b.toNat : Int) = 0 := hxo
            clear hxo hm
            go_wp2_with fail
            go_quiet (fail)
            go_wp2_with fail
            go_roundw
            case rel => exact ⟨k - 1, _, by omega, by congr 1; omega, by rw [HS.out, hv.out, HEE.out], rfl⟩
            case measure => simp [intOf]; omega
    · obtain rfl : i = bs.length := by omega
      have HE : Hid (crc16 (bs.take bs.length) = crc16 bs) := by show _ = _; rw [List.take_length]
      go_wp2_with fail
      go_ret
      exact ⟨by rw [HE.out]; rfl, q, rfl⟩

set_option maxRecDepth 100000 in
set_option maxHeartbeats 1000000 in
/-- spec.Crc16. -/
theorem scrc16a (g cap : Nat) (bs : List UInt8) (w : World) (hb : BytesAt g 0 bs w) (hl : bs.length ≤ 70368744177664) :
    Calls Tryz.prog 45 #[.slice (some ⟨g, 0, none⟩) bs.length cap] w fun e w' => e = .returned (.int .i64 (crc16 bs).toNat) ∧ ∃ q, w' = w.drewN q := by
  have HB := Lib.hid hb; clear hb
  go_enter Tryz.func45, Tryz.ntmps45
  go_wp2_with fail
  refine (scrc16 g cap bs w HB.out hl).mono ?_
  rintro e w' ⟨rfl, q, rfl⟩
  go_wp2_with fail
  go_ret
  exact ⟨rfl, q, rfl⟩
end Go.Proofs.YtemcpcgcnjahjaaGreatDoor
