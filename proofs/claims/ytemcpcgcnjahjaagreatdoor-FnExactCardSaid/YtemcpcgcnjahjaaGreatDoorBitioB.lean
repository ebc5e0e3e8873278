/-
  What writes through a writer of bits: unary numbers, bytes through an interface, numbers coded as UTF-8 has them.
-/
import Derived.Test.YtemcpcgcnjahjaaGreatDoorBitio
namespace Go.Proofs.YtemcpcgcnjahjaaGreatDoor
open Go.RowKit

set_option maxHeartbeats 400000 in
/-- bitio.NewWriter. -/
theorem newWriter (t : TypeId) (x : Value) (w : World) : Calls Tryz.prog 25 #[.iface t x] w fun e w' => e = .returned (.pointer (some ⟨w.heap.size, 0, none⟩)) ∧ w' = w.alloc (.cells #[.iface t x, .int .u8 0, .int .u8 0] 172) := by
  go_enter Tryz.func25, Tryz.ntmps25
  go_wp2_with fail
  go_ret
  exact ⟨rfl, rfl⟩

set_option maxHeartbeats 400000 in
/-- bits.EncodeZigZag. -/
theorem zigzag (x : Int) (w : World) (h1 : -1073741824 ≤ x) (h2 : x < 1073741824) : Calls Tryz.prog 100 #[.int .i32 x] w fun e w' => e = .returned (.int .u32 (foldI x)) ∧ w' = w := by
  have hf := foldI_nonneg x
  by_cases hx : x < 0
  · have e : Hid (foldI x = -x * 2 - 1) := by show foldI x = _; unfold foldI; rw [if_pos hx]; omega
    go_enter Tryz.func100, Tryz.ntmps100
    go_wp2_with fail
    go_ret
    exact ⟨by rw [e.out]; rfl, rfl⟩
  · have e : Hid (foldI x = x * 2) := by show foldI x = _; unfold foldI; rw [if_neg hx]; omega
    go_enter Tryz.func100, Tryz.ntmps100
    go_wp2_with fail
    go_ret
    exact ⟨by rw [e.out]; rfl, rfl⟩

set_option maxHeartbeats 400000 in
/-- bits.WriteUnary. -/
theorem wunary {B : Nat} (σ : Snk B) (W : Nat) (x : Int) (s : List UInt8 × List Bool) (w : World) (h : BW σ W s w) (hx : 0 ≤ x) (hx2 : x < 9223372036854775807) (hl : cnt s + x.toNat + 1 ≤ 70368744177664) :
    Calls Tryz.prog 101 #[.pointer (some ⟨W, 0, none⟩), .int .u64 x] w (Wrote σ W s (unaryB x.toNat) w) := by
  obtain ⟨m, rfl⟩ := Int.eq_ofNat_of_zero_le hx
  rw [Int.toNat_natCast] at *
  have HL := Lib.hid hl; clear hl
  clear hx hx2
  go_enter Tryz.func101, Tryz.ntmps101
  go_wp2_with fail
  go_loopw [1] (fun v wx => ∃ k : Nat, k ≤ m ∧ v = .int .u64 k ∧ BW σ W (wrB s (List.replicate (m - k) false)) wx ∧ Fr B (W :: σ.S) w wx) (fun v _ => (intOf v).toNat)
  case atStart => exact ⟨m, by omega, rfl, by simpa [wrB_nil] using h, Fr.refl _ _ _⟩
  case round =>
    obtain ⟨k, hk, rfl, hb, hfr⟩ := hrel
    have hcnt : cnt (wrB s (List.replicate (m - k) false)) = cnt s + (m - k) := by rw [cnt_wrB, List.length_replicate]
    have HC := Lib.hid hcnt; clear hcnt
    clear h
    by_cases hk8 : 8 < k
    · have hw : IntKind.u64.wrap ((k : Int) - 8) = ((k - 8 : Nat) : Int) := by
        have := HL.out
        rw [IntWalk.u64_in _ (by omega)]; omega
      go_wp2_with fail
      refine (wbyte σ W 0 _ wr hb (by omega) (by omega) (by rw [HC.out]; have := HL.out; omega)).mono ?_
      rintro e w' ⟨rfl, hb', hf'⟩
      have HH : Hid (BW σ W (wrB s (List.replicate (m - (k - 8)) false)) w' ∧ Fr B (W :: σ.S) w w') := by
        refine ⟨?_, hfr.trans hf'⟩
        rw [bitsN_zero, ← wrB_append, List.replicate_append_replicate, show m - k + 8 = m - (k - 8) by omega] at hb'
        exact hb'
      clear hb' hf' hb hfr
      go_wp2_with fail
      go_roundw
      case rel => exact ⟨k - 8, by omega, rfl, HH.out⟩
      case measure => simp [intOf]; omega
    · have hk8' : k ≤ 8 := by omega
      have hw : IntKind.u64.wrap ((k : Int) + 1) = (k : Int) + 1 := IntWalk.u64_in _ (by omega)
      go_wp2_with fail
      refine (wbits σ W 1 _ _ wr hb (by omega) (by omega) (by omega) (by omega) (by rw [HC.out]; have := HL.out; omega)).mono ?_
      rintro e w' ⟨rfl, hb', hf'⟩
      have HH : Hid (BW σ W (wrB s (unaryB m)) w' ∧ Fr B (W :: σ.S) w w') := by
        refine ⟨?_, hfr.trans hf'⟩
        rw [show ((k : Int) + 1).toNat = k + 1 by omega, bitsN_one, ← wrB_append] at hb'
        unfold unaryB at hb' ⊢
        rw [← List.append_assoc, List.replicate_append_replicate, show m - k + k = m by omega] at hb'
        exact hb'
      clear hb' hf' hb hfr
      go_wp2_with fail
      go_ret
      exact ⟨rfl, HH.out⟩

theorem look_bw (a : Addr) (w : World) : (method 429 111 (.pointer (some a)) "Write").run Tryz.prog w = .ok (26, .pointer (some a)) w := by kernel_rfl
theorem ahead_bw (a : Addr) (w : World) : (nilAhead 429 111 (.pointer (some a)) "Write").run Tryz.prog w = .ok (some false) w := by kernel_rfl

set_option maxRecDepth 100000 in
set_option maxHeartbeats 400000 in
/-- (*bitio.Writer).Write, where no bits wait. -/
theorem wwrite {B : Nat} (σ : Snk B) (W : Nat) (o : List UInt8) (xb xo n c : Nat) (cs : List UInt8) (w : World) (h : BW σ W (o, []) w) (hn : cs.length = n) (hx : xb ∉ σ.S)
    (hc : ∀ j v, (Lib.byteCells cs)[j]? = some v → w.cell? ⟨xb, xo + j, none⟩ = some v) (hl : o.length + n ≤ 70368744177664) :
    Calls Tryz.prog 26 #[.pointer (some ⟨W, 0, none⟩), .slice (some ⟨xb, xo, none⟩) n c] w fun e w' => e = .returned (.tuple #[.int .i64 n, .nilIface]) ∧ BW σ W (o ++ cs, []) w' ∧ Fr B (W :: σ.S) w w' := by
  have c0 := Lib.cell_of_heap h.cells 0
  have c2 := Lib.cell_of_heap h.cells 2
  simp only [List.getElem?_toArray, List.getElem?_cons_zero, List.getElem?_cons_succ, Snk.v, List.length_nil] at c0 c2
  have hA := σ.ahead
  have hL := σ.look
  have hE := σ.enter
  have HL := Lib.hid hl; clear hl
  have HC := Lib.hid hc; clear hc
  have HX := Lib.hid hx; clear hx
  have H := Lib.hid h; clear h
  have HN := Lib.hid hn; clear hn
  go_enter Tryz.func26, Tryz.ntmps26
  go_wp2_with fail
  refine (σ.write xb xo n c cs (bs := o) H.out.sink HN.out HX.out HC.out HL.out).mono ?_
  rintro e w' ⟨rfl, hI, hF⟩
  have HH : Hid (BW σ W (o ++ cs, []) w' ∧ Fr B (W :: σ.S) w w') := by
    have h := H.out
    refine ⟨⟨?_, by simp, h.base, h.out, hI⟩, hF.mono (Nat.le_refl _) (fun k _ hk => List.mem_cons_of_mem _ hk)⟩
    rw [hF.at h.cells h.out (by decide)]
  clear hI hF
  go_wp2_with fail
  go_ret2
  exact ⟨rfl, HH.out⟩

set_option maxRecDepth 100000 in
set_option maxHeartbeats 400000 in
/-- ioutilx.WriteByte on a writer of bits, where no bits wait. -/
theorem iowbyte {B : Nat} (σ : Snk B) (W : Nat) (o : List UInt8) (m : Nat) (w : World) (h : BW σ W (o, []) w) (hm : m < 256) (hl : o.length + 1 ≤ 70368744177664) :
    Calls Tryz.prog 97 #[.iface 111 (.pointer (some ⟨W, 0, none⟩)), .int .u8 m] w fun e w' => e = .returned .nilIface ∧ BW σ W (o ++ [UInt8.ofNat m], []) w' ∧ Fr B (W :: σ.S) w w' := by
  have hA := look_bw
  have hL := ahead_bw
  have HL := Lib.hid hl; clear hl
  have H := Lib.hid h; clear h
  have H1 := Lib.hid (H.out.alloc (.cells #[.int .u8 (m : Int)] 266)).drew
  have H2 : Hid (w.heap.size ∉ σ.S) := fun hm => by
    have := (σ.live H.out.sink).2 _ hm
    omega
  have H3 := Lib.hid (new_byte w w.heap.size m 266 rfl hm)
  go_enter Tryz.func97, Tryz.ntmps97
  go_wp2_with fail
  go_region_with (go_at_call 26; refine (wwrite σ W o w.heap.size 0 1 1 [UInt8.ofNat m] _ H1.out rfl H2.out H3.out HL.out).mono ?_; rintro e w' ⟨rfl, hI, hF⟩)
  all_goals
    have HH : Hid (BW σ W (o ++ [UInt8.ofNat m], []) w' ∧ Fr B (W :: σ.S) w w') := by
      refine ⟨hI, Fr.trans (Kp.fr (Kp.trans (Kp.alloc [] _ _) (Kp.drew _ _)) H.out.baseLe (by simp) |>.mono (Nat.le_refl _) (by simp)) hF⟩
    clear hI hF
    go_wp2_with fail
    go_ret
    exact ⟨rfl, HH.out⟩

/-- The bytes of a number below 2048, as UTF-8 has them. -/
def codedB (m : Nat) : List UInt8 := if m < 128 then [UInt8.ofNat m] else [UInt8.ofNat (192 + m / 64), UInt8.ofNat (128 + m % 64)]

theorem or_join (x y : Nat) (i : Nat) (hx : x % 2 ^ i = 0) (hy : y < 2 ^ i) (hx1 : x < 18446744073709551616) (hy1 : y < 18446744073709551616) : bits .or .u64 (x : Int) (y : Int) = ((x + y : Nat) : Int) := by
  rw [u64_or_nat x y hx1 hy1, nat_join i x y hx hy]

theorem utf_first (m : Nat) (h : m < 2048) : bits .or .u64 192 (bits .and .u64 ((m : Int) / 64) 31) = ((192 + m / 64 : Nat) : Int) := by
  have e : bits .and .u64 ((m : Int) / 64) 31 = ((m / 64 : Nat) : Int) := by
    have := u64_and_nat (m / 64) 31 (by omega) (by omega)
    rw [nat_mask5, Nat.mod_eq_of_lt (by omega)] at this
    exact_mod_cast this
  rw [e]
  exact or_join 192 (m / 64) 5 (by decide) (by omega) (by omega) (by omega)

theorem utf_last (m : Nat) (h : m < 2048) : bits .or .u64 128 (bits .and .u64 (m : Int) 63) = ((128 + m % 64 : Nat) : Int) := by
  have e : bits .and .u64 (m : Int) 63 = ((m % 64 : Nat) : Int) := by
    have := u64_and_nat m 63 (by omega) (by omega)
    rw [nat_mask6] at this
    exact_mod_cast this
  rw [e]
  exact or_join 128 (m % 64) 6 (by decide) (by omega) (by omega) (by omega)

theorem iowbyteI {B : Nat} (σ : Snk B) (W : Nat) (o : List UInt8) (c : Int) (w : World) (h : BW σ W (o, []) w) (h0 : 0 ≤ c) (h1 : c < 256) (hl : o.length + 1 ≤ 70368744177664) :
    Calls Tryz.prog 97 #[.iface 111 (.pointer (some ⟨W, 0, none⟩)), .int .u8 c] w fun e w' => e = .returned .nilIface ∧ BW σ W (o ++ [UInt8.ofNat c.toNat], []) w' ∧ Fr B (W :: σ.S) w w' := by
  obtain ⟨m, rfl⟩ := Int.eq_ofNat_of_zero_le h0
  exact iowbyte σ W o m w h (by omega) hl

set_option maxRecDepth 100000 in
set_option maxHeartbeats 1000000 in
/-- utf8.Encode on a writer of bits where no bits wait, of a number below 2048. -/
theorem utfEncode {B : Nat} (σ : Snk B) (W : Nat) (o : List UInt8) (m : Nat) (w : World) (h : BW σ W (o, []) w) (hm : m < 2048) (hl : o.length + 2 ≤ 70368744177664) :
    Calls Tryz.prog 68 #[.iface 111 (.pointer (some ⟨W, 0, none⟩)), .int .u64 m] w fun e w' => e = .returned .nilIface ∧ BW σ W (o ++ codedB m, []) w' ∧ Fr B (W :: σ.S) w w' := by
  have HL := Lib.hid hl; clear hl
  by_cases h1 : m < 128
  · have hc : Hid (codedB m = [UInt8.ofNat m]) := by show codedB m = _; unfold codedB; rw [if_pos h1]
    have H := Lib.hid h; clear h
    go_enter Tryz.func68, Tryz.ntmps68
    go_wp2_with fail
    refine (iowbyte σ W o m w H.out (by omega) (by have := HL.out; omega)).mono ?_
    rintro e w' ⟨rfl, hb⟩
    have HH := Lib.hid hb; clear hb
    go_wp2_with fail
    go_ret
    exact ⟨rfl, by rw [hc.out]; exact HH.out⟩
  · have hc : Hid (codedB m = [UInt8.ofNat (192 + m / 64), UInt8.ofNat (128 + m % 64)]) := by show codedB m = _; unfold codedB; rw [if_neg h1]
    have H := Lib.hid h; clear h
    have b1 := utf_first m hm
    have b2 := utf_last m hm
    go_enter Tryz.func68, Tryz.ntmps68
    go_wp2_with fail
    refine (iowbyteI σ W o _ w H.out (by omega) (by omega) (by have := HL.out; omega)).mono ?_
    rintro e w' ⟨rfl, hb, hf⟩
    rw [show ((192 : Int) + (m : Int) / 64).toNat = 192 + m / 64 by omega] at hb
    go_wp2_with fail
    go_loopw [9] (fun v wx => (v = .int .i64 0 ∧ BW σ W (o ++ [UInt8.ofNat (192 + m / 64)], []) wx ∧ Fr B (W :: σ.S) w wx) ∨ (v = .int .i64 (-1) ∧ BW σ W (o ++ codedB m, []) wx ∧ Fr B (W :: σ.S) w wx)) (fun v _ => (intOf v + 1).toNat)
    case atStart => exact .inl ⟨rfl, hb, hf⟩
    case round =>
      clear hb hf
      rcases hrel with ⟨rfl, hb, hf⟩ | ⟨rfl, hb, hf⟩
      · have F := Lib.hid hf; clear hf
        go_wp2_with fail
        refine (iowbyteI σ W _ _ wr hb (by omega) (by omega) (by have := HL.out; simp; omega)).mono ?_
        rintro e w'' ⟨rfl, hb2, hf2⟩
        rw [show ((128 : Int) + (m : Int) % 64).toNat = 128 + m % 64 by omega] at hb2
        have HH : Hid (BW σ W (o ++ codedB m, []) w'' ∧ Fr B (W :: σ.S) w w'') := by
          refine ⟨?_, F.out.trans hf2⟩
          rw [hc.out]; simpa using hb2
        clear hb2 hf2 hb
        go_wp2_with fail
        go_roundw
        case rel => exact .inr ⟨rfl, HH.out⟩
        case measure => simp [intOf]
      · have HH := Lib.hid (And.intro hb hf); clear hb hf
        go_wp2_with fail
        go_ret
        exact ⟨rfl, HH.out⟩

end Go.Proofs.YtemcpcgcnjahjaaGreatDoor
