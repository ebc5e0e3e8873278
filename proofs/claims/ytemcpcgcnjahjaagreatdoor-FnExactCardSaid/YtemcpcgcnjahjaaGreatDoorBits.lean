/-
  Plain: bits of numbers, and bytes out of bits. Nothing of Go.
-/
import Derived.Lib.Strings
import Derived.Laws.BitsAllLaws
namespace Go.Proofs.YtemcpcgcnjahjaaGreatDoor

/-- The bits of a number, from place n - 1 down to place 0. -/
def bitsN (v : Int) : Nat → List Bool
  | 0 => []
  | n + 1 => (v / 2 ^ n % 2 == 1) :: bitsN v n

theorem bitsN_length (v : Int) (n : Nat) : (bitsN v n).length = n := by
  induction n with
  | zero => rfl
  | succ n ih => simp [bitsN, ih]

theorem bit_mod (v : Int) (k m : Nat) (h : k < m) : v % 2 ^ m / 2 ^ k % 2 = v / 2 ^ k % 2 := by
  have h1 : (2 : Int) ^ m = 2 ^ k * (2 ^ (m - k)) := by rw [← Int.pow_add]; congr 1; omega
  have h2 : (2 : Int) ^ (m - k) = 2 * 2 ^ (m - k - 1) := by
    have e : m - k = (m - k - 1) + 1 := by omega
    rw [e, Int.pow_succ, Int.mul_comm]; simp
  have hp : (0 : Int) < 2 ^ k := Int.pow_pos (by decide)
  rw [h1, Int.emod_def v (2 ^ k * 2 ^ (m - k))]
  have e3 : v - 2 ^ k * 2 ^ (m - k) * (v / (2 ^ k * 2 ^ (m - k))) = v + 2 ^ k * (-(2 ^ (m - k) * (v / (2 ^ k * 2 ^ (m - k))))) := by
    rw [Int.mul_neg, Int.mul_assoc]; omega
  rw [e3, Int.add_mul_ediv_left _ _ (by omega), h2, Int.mul_assoc]
  generalize 2 ^ (m - k - 1) * (v / (2 ^ k * (2 * 2 ^ (m - k - 1)))) = t
  omega

/-- Only the lowest bits count. -/
theorem bitsN_mod (v : Int) (n m : Nat) (h : n ≤ m) : bitsN (v % 2 ^ m) n = bitsN v n := by
  induction n with
  | zero => rfl
  | succ n ih => simp only [bitsN]; rw [ih (by omega), bit_mod v n m (by omega)]

theorem bitsN_mod64 (v : Int) (n : Nat) (h : n ≤ 64) : bitsN (v % 18446744073709551616) n = bitsN v n := by
  have := bitsN_mod v n 64 h
  simpa using this

theorem bitsN_zero (n : Nat) : bitsN 0 n = List.replicate n false := by
  induction n with
  | zero => rfl
  | succ n ih => simp [bitsN, ih, List.replicate_succ]

/-- The value of bits, the highest first. -/
def valB : List Bool → Nat
  | [] => 0
  | b :: l => b.toNat * 2 ^ l.length + valB l

theorem valB_lt (l : List Bool) : valB l < 2 ^ l.length := by
  induction l with
  | nil => simp [valB]
  | cons b l ih =>
    simp only [valB, List.length_cons, Nat.pow_succ]
    cases b <;> simp <;> omega

theorem valB_append (l m : List Bool) : valB (l ++ m) = valB l * 2 ^ m.length + valB m := by
  induction l with
  | nil => simp [valB]
  | cons b l ih =>
    simp only [List.cons_append, valB, ih, List.length_append, Nat.pow_add, Nat.add_mul]
    rw [Nat.mul_assoc]; omega

theorem valB_snoc (l : List Bool) (b : Bool) : valB (l ++ [b]) = 2 * valB l + b.toNat := by
  rw [valB_append]; simp [valB]; omega

theorem emod_succ (v : Int) (n : Nat) : v % 2 ^ (n + 1) = v % 2 ^ n + 2 ^ n * (v / 2 ^ n % 2) := by
  have hp : (0 : Int) < 2 ^ n := Int.pow_pos (by decide)
  have h1 := Int.mul_ediv_add_emod v (2 ^ n)
  have h2 := Int.mul_ediv_add_emod (v / 2 ^ n) 2
  have h3 := Int.emod_nonneg v (show (2 : Int) ^ n ≠ 0 by omega)
  have h4 := Int.emod_lt_of_pos v hp
  have h5 : 0 ≤ v / 2 ^ n % 2 := by omega
  have h6 : v / 2 ^ n % 2 ≤ 1 := by omega
  have h7 : 0 ≤ 2 ^ n * (v / 2 ^ n % 2) := Int.mul_nonneg (by omega) h5
  have h8 : 2 ^ n * (v / 2 ^ n % 2) ≤ 2 ^ n * 1 := Int.mul_le_mul_of_nonneg_left h6 (by omega)
  have e : v = (v % 2 ^ n + 2 ^ n * (v / 2 ^ n % 2)) + 2 ^ (n + 1) * (v / 2 ^ n / 2) := by
    rw [Int.pow_succ, Int.mul_assoc]
    have : 2 ^ n * (v / 2 ^ n) = 2 ^ n * (2 * (v / 2 ^ n / 2)) + 2 ^ n * (v / 2 ^ n % 2) := by rw [← Int.mul_add, h2]
    omega
  conv => lhs; rw [e]
  rw [Int.add_mul_emod_self_left]
  refine Int.emod_eq_of_lt (by omega) ?_
  rw [Int.pow_succ]; omega

theorem valB_bitsN (v : Int) (n : Nat) : (valB (bitsN v n) : Int) = v % 2 ^ n := by
  induction n with
  | zero => simp [bitsN, valB, Int.emod_one]
  | succ n ih =>
    simp only [bitsN, valB, bitsN_length]
    rw [emod_succ, Int.natCast_add, ih, Int.natCast_mul, Int.natCast_pow]
    have h : (((v / 2 ^ n % 2 == 1) : Bool).toNat : Int) = v / 2 ^ n % 2 := by
      by_cases hb : v / 2 ^ n % 2 = 1
      · simp [hb]
      · have : v / 2 ^ n % 2 = 0 := by omega
        simp [this]
    rw [h, Int.mul_comm]
    simp [Int.add_comm]

theorem bitsN_split (v : Int) (m n : Nat) : bitsN v (m + n) = bitsN (v / 2 ^ n) m ++ bitsN v n := by
  induction m with
  | zero => simp [bitsN]
  | succ m ih =>
    rw [show m + 1 + n = (m + n) + 1 by omega]
    simp only [bitsN, List.cons_append]
    rw [ih]
    congr 2
    rw [Int.ediv_ediv_of_nonneg (Int.le_of_lt (Int.pow_pos (by decide))), ← Int.pow_add, Nat.add_comm n m]

theorem take_bitsN (v : Int) (n k : Nat) (h : k ≤ n) : (bitsN v n).take (n - k) = bitsN (v / 2 ^ k) (n - k) := by
  obtain ⟨m, rfl⟩ : ∃ m, n = m + k := ⟨n - k, by omega⟩
  rw [bitsN_split, Nat.add_sub_cancel, List.take_left' (bitsN_length _ _)]

theorem bitsN_step (v : Int) (n k : Nat) (h0 : 0 < k) (h : k ≤ n) : (bitsN v n).take (n - (k - 1)) = (bitsN v n).take (n - k) ++ [v / 2 ^ (k - 1) % 2 == 1] := by
  rw [take_bitsN v n (k - 1) (by omega), take_bitsN v n k h]
  have e : n - (k - 1) = (n - k) + 1 := by omega
  rw [e, bitsN_split, Int.ediv_ediv_of_nonneg (Int.le_of_lt (Int.pow_pos (by decide))), ← Int.pow_add]
  have e2 : k - 1 + 1 = k := by omega
  rw [e2]
  simp [bitsN]

/-! ### Bits written one by one: whole bytes, and the bits that wait -/

/-- What a writer of bits holds: the bytes that are whole, and the bits behind them (fewer than eight). -/
def pushB (s : List UInt8 × List Bool) (b : Bool) : List UInt8 × List Bool :=
  if s.2.length = 7 then (s.1 ++ [UInt8.ofNat (valB (s.2 ++ [b]))], []) else (s.1, s.2 ++ [b])

def wrB (s : List UInt8 × List Bool) (bits : List Bool) : List UInt8 × List Bool := bits.foldl pushB s

theorem wrB_nil (s : List UInt8 × List Bool) : wrB s [] = s := rfl
theorem wrB_cons (s : List UInt8 × List Bool) (b : Bool) (l : List Bool) : wrB s (b :: l) = wrB (pushB s b) l := rfl
theorem wrB_append (s : List UInt8 × List Bool) (l m : List Bool) : wrB s (l ++ m) = wrB (wrB s l) m := List.foldl_append ..
theorem wrB_snoc (s : List UInt8 × List Bool) (l : List Bool) (b : Bool) : wrB s (l ++ [b]) = pushB (wrB s l) b := by rw [wrB_append]; rfl

theorem pushB_rest (s : List UInt8 × List Bool) (b : Bool) (h : s.2.length < 8) : (pushB s b).2.length < 8 := by
  unfold pushB
  split
  · simp
  · simp; omega

theorem wrB_rest (s : List UInt8 × List Bool) (l : List Bool) (h : s.2.length < 8) : (wrB s l).2.length < 8 := by
  induction l generalizing s with
  | nil => exact h
  | cons b l ih => exact ih _ (pushB_rest s b h)

/-- How many bits in all. -/
def cnt (s : List UInt8 × List Bool) : Nat := 8 * s.1.length + s.2.length

theorem cnt_pushB (s : List UInt8 × List Bool) (b : Bool) : cnt (pushB s b) = cnt s + 1 := by
  unfold pushB cnt
  split <;> simp <;> omega

theorem cnt_wrB (s : List UInt8 × List Bool) (l : List Bool) : cnt (wrB s l) = cnt s + l.length := by
  induction l generalizing s with
  | nil => rfl
  | cons b l ih => rw [wrB_cons, ih, cnt_pushB]; simp; omega

theorem wrB_len (s : List UInt8 × List Bool) (l : List Bool) : (wrB s l).1.length ≤ s.1.length + s.2.length + l.length := by
  have h := cnt_wrB s l
  unfold cnt at h
  omega

/-- Noughts up to a whole byte. -/
def padB (s : List UInt8 × List Bool) : List Bool := if s.2.length = 0 then [] else List.replicate (8 - s.2.length) false

theorem wrB_pad (s : List UInt8 × List Bool) (h : s.2.length < 8) : (wrB s (padB s)).2 = [] := by
  have hr := wrB_rest s (padB s) h
  have hc := cnt_wrB s (padB s)
  unfold cnt at hc
  unfold padB at *
  split at hc
  · rename_i h0
    simp only [h0, if_true, wrB_nil]
    exact List.eq_nil_of_length_eq_zero h0
  · rename_i h0
    simp only [h0, if_false] at *
    simp only [List.length_replicate] at hc
    exact List.eq_nil_of_length_eq_zero (by omega)

/-- So many noughts and a one. -/
def unaryB (n : Nat) : List Bool := List.replicate n false ++ [true]

theorem bitsN_one (n : Nat) : bitsN 1 (n + 1) = unaryB n := by
  rw [bitsN_split 1 n 1, show (1 : Int) / 2 ^ 1 = 0 by decide, bitsN_zero]
  rfl

/-- A number as one that is not below 0. -/
def foldI (x : Int) : Int := if x < 0 then -2 * x - 1 else 2 * x

theorem foldI_nonneg (x : Int) : 0 ≤ foldI x := by unfold foldI; split <;> omega
theorem foldI_lt (x m : Int) (h1 : -m ≤ x) (h2 : x < m) : foldI x < 2 * m := by unfold foldI; split <;> omega

end Go.Proofs.YtemcpcgcnjahjaaGreatDoor
/-
  Plain: the remainder of a text by a polynomial: bit by bit, and by a table of bytes.
-/
namespace Go.Proofs.YtemcpcgcnjahjaaGreatDoor

def stepP {n : Nat} (p c : BitVec n) : BitVec n := if c.msb then (c <<< 1) ^^^ p else c <<< 1
def stepsP {n : Nat} (p : BitVec n) : Nat → BitVec n → BitVec n
  | 0, c => c
  | k + 1, c => stepsP p k (stepP p c)

theorem stepsP_succ' {n : Nat} (p : BitVec n) (k : Nat) (c : BitVec n) : stepsP p (k + 1) c = stepP p (stepsP p k c) := by
  induction k generalizing c with
  | zero => rfl
  | succ k ih => rw [stepsP, ih (stepP p c)]; rfl

theorem xor_move {n : Nat} (a b c : BitVec n) : a ^^^ b ^^^ c = (a ^^^ c) ^^^ b := by rw [BitVec.xor_assoc, BitVec.xor_comm b c, ← BitVec.xor_assoc]

theorem stepP_xor {n : Nat} (p a b : BitVec n) : stepP p (a ^^^ b) = stepP p a ^^^ stepP p b := by
  unfold stepP
  rw [BitVec.msb_xor, BitVec.shiftLeft_xor_distrib]
  cases a.msb <;> cases b.msb
  · simp
  · simp only [Bool.false_xor, if_true, if_false, Bool.false_eq_true]
    rw [BitVec.xor_assoc]
  · simp only [Bool.true_xor, Bool.not_false, if_true, if_false, Bool.false_eq_true]
    exact xor_move _ _ _
  · simp only [Bool.true_xor, Bool.not_true, if_true, if_false, Bool.false_eq_true]
    rw [BitVec.xor_assoc, BitVec.xor_comm (b <<< 1) p, ← BitVec.xor_assoc p p, BitVec.xor_self, BitVec.zero_xor]

theorem stepsP_xor {n : Nat} (p : BitVec n) (k : Nat) (a b : BitVec n) : stepsP p k (a ^^^ b) = stepsP p k a ^^^ stepsP p k b := by
  induction k generalizing a b with
  | zero => rfl
  | succ k ih => simp only [stepsP]; rw [stepP_xor, ih]

/-- One bit of the text, the highest place of the remainder turned by it. -/
def feedP {n : Nat} (p c : BitVec n) (b : Bool) : BitVec n := if c.msb != b then (c <<< 1) ^^^ p else c <<< 1

def upd16 (c : BitVec 16) (x : UInt8) : BitVec 16 := stepsP 0x8005#16 8 (c ^^^ (BitVec.ofNat 16 x.toNat <<< 8))
def upd8 (c : BitVec 8) (x : UInt8) : BitVec 8 := stepsP 0x07#8 8 (c ^^^ BitVec.ofNat 8 x.toNat)
def crc16 (l : List UInt8) : BitVec 16 := l.foldl upd16 0#16
def crc8 (l : List UInt8) : BitVec 8 := l.foldl upd8 0#8
def tab16 (i : Nat) : BitVec 16 := stepsP 0x8005#16 8 (BitVec.ofNat 16 i <<< 8)
def tab8 (i : Nat) : BitVec 8 := stepsP 0x07#8 8 (BitVec.ofNat 8 i)

theorem crc16_append (l m : List UInt8) : crc16 (l ++ m) = m.foldl upd16 (crc16 l) := List.foldl_append ..
theorem crc8_append (l m : List UInt8) : crc8 (l ++ m) = m.foldl upd8 (crc8 l) := List.foldl_append ..

theorem low_steps : ∀ i : Fin 256, stepsP 0x8005#16 8 (BitVec.ofNat 16 i.val) = BitVec.ofNat 16 i.val <<< 8 := by decide +kernel

/-- The table's way. -/
theorem upd16_tab (c : BitVec 16) (x : UInt8) : upd16 c x = (c <<< 8) ^^^ tab16 ((c.toNat / 256) ^^^ x.toNat) := by
  have hx : x.toNat < 256 := x.toNat_lt
  have hc : c.toNat < 65536 := c.isLt
  have hs : c = (BitVec.ofNat 16 (c.toNat / 256) <<< 8) ^^^ BitVec.ofNat 16 (c.toNat % 256) := by
    apply BitVec.eq_of_toNat_eq
    rw [BitVec.toNat_xor, BitVec.toNat_shiftLeft, BitVec.toNat_ofNat, BitVec.toNat_ofNat]
    have e1 : (c.toNat / 256) % 2 ^ 16 = c.toNat / 256 := Nat.mod_eq_of_lt (by omega)
    have e2 : (c.toNat % 256) % 2 ^ 16 = c.toNat % 256 := Nat.mod_eq_of_lt (by omega)
    rw [e1, e2, Nat.shiftLeft_eq]
    have e3 : c.toNat / 256 * 2 ^ 8 % 2 ^ 16 = c.toNat / 256 * 2 ^ 8 := Nat.mod_eq_of_lt (by omega)
    rw [e3, Nat.mul_comm]
    have e4 : 2 ^ 8 * (c.toNat / 256) ^^^ c.toNat % 256 = 2 ^ 8 * (c.toNat / 256) + c.toNat % 256 := by
      rw [Nat.two_pow_add_eq_or_of_lt (i := 8) (by omega)]
      apply Nat.eq_of_testBit_eq
      intro j
      rw [Nat.testBit_xor, Nat.testBit_or, Nat.testBit_two_pow_mul]
      by_cases hj : 8 ≤ j
      · have : (c.toNat % 256).testBit j = false := Nat.testBit_lt_two_pow (Nat.lt_of_lt_of_le (by omega : c.toNat % 256 < 2 ^ 8) (Nat.pow_le_pow_right (by decide) hj))
        simp [this]
      · simp [hj]
    rw [e4]; omega
  have hlow := low_steps ⟨c.toNat % 256, by omega⟩
  simp only at hlow
  have hsh : c <<< 8 = BitVec.ofNat 16 (c.toNat % 256) <<< 8 := by
    apply BitVec.eq_of_toNat_eq
    rw [BitVec.toNat_shiftLeft, BitVec.toNat_shiftLeft, BitVec.toNat_ofNat, Nat.shiftLeft_eq, Nat.shiftLeft_eq]
    omega
  have hix : BitVec.ofNat 16 ((c.toNat / 256) ^^^ x.toNat) = BitVec.ofNat 16 (c.toNat / 256) ^^^ BitVec.ofNat 16 x.toNat := BitVec.ofNat_xor
  unfold upd16 tab16
  rw [hix, BitVec.shiftLeft_xor_distrib, hsh, ← hlow, ← stepsP_xor]
  congr 1
  conv => lhs; rw [hs]
  rw [xor_move, BitVec.xor_comm]

theorem upd8_tab (c : BitVec 8) (x : UInt8) : upd8 c x = tab8 (c.toNat ^^^ x.toNat) := by
  unfold upd8 tab8
  congr 1
  rw [BitVec.ofNat_xor]
  simp

/-! ### The same over Int, as a walk has it -/

theorem u16_top (c : BitVec 16) : (bits .and .u16 (c.toNat : Int) 32768 != 0) = c.msb := by
  have h := u16_and_nat c.toNat 32768 c.isLt (by decide)
  rw [show ((32768 : Nat) : Int) = 32768 from rfl] at h
  rw [h, show (32768 : Nat) = 2 ^ 15 from rfl, nat_bit, BitVec.msb_eq_decide]
  have := c.isLt
  by_cases hm : 2 ^ (16 - 1) ≤ c.toNat
  · have : c.toNat / 2 ^ 15 % 2 = 1 := by omega
    rw [this]; simp [hm]
  · have : c.toNat / 2 ^ 15 % 2 = 0 := by omega
    rw [this]; simp [hm]

theorem u8_top (c : BitVec 8) : (bits .and .u8 (c.toNat : Int) 128 != 0) = c.msb := by
  have h := u8_and_nat c.toNat 128 c.isLt (by decide)
  rw [show ((128 : Nat) : Int) = 128 from rfl] at h
  rw [h, show (128 : Nat) = 2 ^ 7 from rfl, nat_bit, BitVec.msb_eq_decide]
  have := c.isLt
  by_cases hm : 2 ^ (8 - 1) ≤ c.toNat
  · have : c.toNat / 2 ^ 7 % 2 = 1 := by omega
    rw [this]; simp [hm]
  · have : c.toNat / 2 ^ 7 % 2 = 0 := by omega
    rw [this]; simp [hm]

theorem u16_shl1 (c : BitVec 16) : (c.toNat : Int) * (2 : Int) % (65536 : Int) = (((c <<< 1).toNat : Nat) : Int) := by
  rw [BitVec.toNat_shiftLeft, Nat.shiftLeft_eq]; omega
theorem u8_shl1 (c : BitVec 8) : (c.toNat : Int) * (2 : Int) % (256 : Int) = (((c <<< 1).toNat : Nat) : Int) := by
  rw [BitVec.toNat_shiftLeft, Nat.shiftLeft_eq]; omega
theorem u16_shl8 (c : BitVec 16) : (c.toNat : Int) * (256 : Int) % (65536 : Int) = (((c <<< 8).toNat : Nat) : Int) := by
  rw [BitVec.toNat_shiftLeft, Nat.shiftLeft_eq]; omega

theorem u16_xorB (a b : BitVec 16) : bits .xor .u16 (a.toNat : Int) (b.toNat : Int) = (((a ^^^ b).toNat : Nat) : Int) := by
  rw [u16_xor_nat _ _ a.isLt b.isLt, BitVec.toNat_xor]
theorem u8_xorB (a b : BitVec 8) : bits .xor .u8 (a.toNat : Int) (b.toNat : Int) = (((a ^^^ b).toNat : Nat) : Int) := by
  rw [u8_xor_nat _ _ a.isLt b.isLt, BitVec.toNat_xor]

end Go.Proofs.YtemcpcgcnjahjaaGreatDoor
/-
  Plain: the remainder of a text bit by bit is the remainder byte by byte.
-/
namespace Go.Proofs.YtemcpcgcnjahjaaGreatDoor

theorem feed8 : ∀ (c : BitVec 8) (b : Bool), feedP 0x07#8 c b = stepP 0x07#8 (c ^^^ (if b then 0x80#8 else 0#8)) := by decide +kernel
theorem top16 (c : BitVec 16) : (c ^^^ 0x8000#16).msb = !c.msb ∧ (c ^^^ 0x8000#16) <<< 1 = c <<< 1 := by
  constructor
  · rw [BitVec.msb_xor, show (0x8000#16).msb = true from by decide, Bool.xor_true]
  · rw [BitVec.shiftLeft_xor_distrib, show 0x8000#16 <<< 1 = 0#16 from by decide, BitVec.xor_zero]
theorem feed16 (c : BitVec 16) (b : Bool) : feedP 0x8005#16 c b = stepP 0x8005#16 (c ^^^ (if b then 0x8000#16 else 0#16)) := by
  unfold feedP stepP
  cases b
  · simp
  · obtain ⟨h1, h2⟩ := top16 c
    simp only [if_true]
    rw [h1, h2]
    cases c.msb <;> simp

theorem lay8 : ∀ (k : Fin 8) (m : Fin 256) (b : Bool), m.val < 2 ^ k.val →
    BitVec.ofNat 8 (b.toNat * 2 ^ k.val + m.val) <<< (8 - (k.val + 1)) = (if b then 0x80#8 else 0#8) ^^^ (BitVec.ofNat 8 m.val <<< (8 - (k.val + 1))) ∧
    stepP 0x07#8 (BitVec.ofNat 8 m.val <<< (8 - (k.val + 1))) = BitVec.ofNat 8 m.val <<< (8 - k.val) := by decide +kernel
theorem lay16 : ∀ (k : Fin 8) (m : Fin 256) (b : Bool), m.val < 2 ^ k.val →
    BitVec.ofNat 16 (b.toNat * 2 ^ k.val + m.val) <<< (16 - (k.val + 1)) = (if b then 0x8000#16 else 0#16) ^^^ (BitVec.ofNat 16 m.val <<< (16 - (k.val + 1))) ∧
    stepP 0x8005#16 (BitVec.ofNat 16 m.val <<< (16 - (k.val + 1))) = BitVec.ofNat 16 m.val <<< (16 - k.val) := by decide +kernel

theorem feeds8 (l : List Bool) (h : l.length ≤ 8) (c : BitVec 8) : l.foldl (feedP 0x07#8) c = stepsP 0x07#8 l.length (c ^^^ (BitVec.ofNat 8 (valB l) <<< (8 - l.length))) := by
  induction l generalizing c with
  | nil => simp [valB, stepsP]
  | cons b l ih =>
    simp only [List.length_cons] at h
    have hv := valB_lt l
    have hp : 2 ^ l.length ≤ 2 ^ 7 := Nat.pow_le_pow_right (by decide) (by omega)
    obtain ⟨h1, h2⟩ := lay8 ⟨l.length, by omega⟩ ⟨valB l, by omega⟩ b hv
    simp only at h1 h2
    rw [List.foldl_cons, ih (by omega), feed8, List.length_cons, stepsP, valB, h1, ← h2, ← stepP_xor, BitVec.xor_assoc]
theorem feeds16 (l : List Bool) (h : l.length ≤ 8) (c : BitVec 16) : l.foldl (feedP 0x8005#16) c = stepsP 0x8005#16 l.length (c ^^^ (BitVec.ofNat 16 (valB l) <<< (16 - l.length))) := by
  induction l generalizing c with
  | nil => simp [valB, stepsP]
  | cons b l ih =>
    simp only [List.length_cons] at h
    have hv := valB_lt l
    have hp : 2 ^ l.length ≤ 2 ^ 7 := Nat.pow_le_pow_right (by decide) (by omega)
    obtain ⟨h1, h2⟩ := lay16 ⟨l.length, by omega⟩ ⟨valB l, by omega⟩ b hv
    simp only at h1 h2
    rw [List.foldl_cons, ih (by omega), feed16, List.length_cons, stepsP, valB, h1, ← h2, ← stepP_xor, BitVec.xor_assoc]

/-- A byte, bit by bit. -/
theorem byte8 (c : BitVec 8) (x : UInt8) : (bitsN (x.toNat : Int) 8).foldl (feedP 0x07#8) c = upd8 c x := by
  have hv := valB_bitsN (x.toNat : Int) 8
  have hx := x.toNat_lt
  have hn : valB (bitsN (x.toNat : Int) 8) = x.toNat := by omega
  rw [feeds8 _ (by rw [bitsN_length]; exact Nat.le_refl _), bitsN_length, hn]
  unfold upd8
  simp
theorem byte16 (c : BitVec 16) (x : UInt8) : (bitsN (x.toNat : Int) 8).foldl (feedP 0x8005#16) c = upd16 c x := by
  have hv := valB_bitsN (x.toNat : Int) 8
  have hx := x.toNat_lt
  have hn : valB (bitsN (x.toNat : Int) 8) = x.toNat := by omega
  rw [feeds16 _ (by rw [bitsN_length]; exact Nat.le_refl _), bitsN_length, hn]
  rfl

end Go.Proofs.YtemcpcgcnjahjaaGreatDoor
/-
  Plain: the bytes of a writer that keeps its last byte among them, though it is not full.
-/
namespace Go.Proofs.YtemcpcgcnjahjaaGreatDoor

/-- Bits at the top of a byte. -/
def lastB (r : List Bool) : Nat := valB r * 2 ^ (8 - r.length)
/-- All bytes, the last one too. -/
def outB (s : List UInt8 × List Bool) : List UInt8 := if s.2.length = 0 then s.1 else s.1 ++ [UInt8.ofNat (lastB s.2)]

theorem lastB_lt (r : List Bool) (h : r.length ≤ 8) : lastB r < 256 := by
  unfold lastB
  have h1 := valB_lt r
  have h2 : 2 ^ r.length * 2 ^ (8 - r.length) = 256 := by rw [← Nat.pow_add, show r.length + (8 - r.length) = 8 by omega]
  have h3 : 0 < 2 ^ (8 - r.length) := Nat.two_pow_pos _
  rw [← h2]
  exact Nat.mul_lt_mul_of_pos_right h1 h3

theorem lastB_snoc (r : List Bool) (b : Bool) (h : r.length < 8) : lastB (r ++ [b]) = lastB r + b.toNat * 2 ^ (7 - r.length) := by
  unfold lastB
  rw [valB_snoc, List.length_append, List.length_singleton]
  have e : 8 - r.length = (7 - r.length) + 1 := by omega
  have e2 : 8 - (r.length + 1) = 7 - r.length := by omega
  rw [e, e2, Nat.pow_succ, Nat.add_mul]
  have : 2 * valB r * 2 ^ (7 - r.length) = valB r * (2 ^ (7 - r.length) * 2) := by rw [Nat.mul_comm 2 (valB r), Nat.mul_assoc, Nat.mul_comm 2]
  omega

theorem lastB_mod (r : List Bool) : lastB r % 2 ^ (8 - r.length) = 0 := Nat.mul_mod_left _ _

theorem lastB_nil : lastB [] = 0 := rfl

/-- One bit laid into the last byte. -/
theorem last_or (r : List Bool) (b : Bool) (h : r.length < 8) : bits .or .u8 (lastB r : Int) ((b.toNat * 2 ^ (7 - r.length) : Nat) : Int) = (lastB (r ++ [b]) : Nat) := by
  have h1 := lastB_lt r (by omega)
  have h2 := lastB_lt (r ++ [b]) (by simp; omega)
  have h3 := lastB_snoc r b h
  rw [u8_or_nat _ _ h1 (by omega), h3]
  congr 1
  refine nat_join (8 - r.length) _ _ (lastB_mod r) ?_
  have e : 8 - r.length = (7 - r.length) + 1 := by omega
  have : 0 < 2 ^ (7 - r.length) := Nat.two_pow_pos _
  rw [e, Nat.pow_succ]
  cases b <;> simp <;> omega

theorem outB_push (s : List UInt8 × List Bool) (b : Bool) : outB (pushB s b) = s.1 ++ [UInt8.ofNat (lastB (s.2 ++ [b]))] := by
  unfold pushB outB
  by_cases h : s.2.length = 7
  · simp only [h, if_true, List.length_nil]
    have : lastB (s.2 ++ [b]) = valB (s.2 ++ [b]) := by
      unfold lastB; simp [h]
    rw [this]
  · simp [h]

theorem outB_length (s : List UInt8 × List Bool) : (outB s).length = if s.2.length = 0 then s.1.length else s.1.length + 1 := by
  unfold outB; split <;> simp

theorem outB_whole (s : List UInt8 × List Bool) (h : s.2 = []) : outB s = s.1 := by unfold outB; simp [h]

theorem cnt_div (s : List UInt8 × List Bool) (h : s.2.length < 8) : cnt s / 8 = s.1.length := by unfold cnt; omega
theorem cnt_mod (s : List UInt8 × List Bool) (h : s.2.length < 8) : cnt s % 8 = s.2.length := by unfold cnt; omega

end Go.Proofs.YtemcpcgcnjahjaaGreatDoor
