/-
  The size of a frame as its header tells it.
-/
import Derived.Test.YtemcpcgcnjahjaaGreatDoorNums
import Derived.Test.YtemcpcgcnjahjaaGreatDoorBitioB
namespace Go.Proofs.YtemcpcgcnjahjaaGreatDoor
open Go.RowKit
theorem f64bits (w : World) : (callFunc 126 #[.float .f64 4607182418800017408]).run Tryz.prog w = .ok (.value (.int .u64 4607182418800017408)) w := by kernel_rfl
theorem f64abs (w : World) : (callFunc 127 #[.int .u64 (bits .andNot .u64 4607182418800017408 9223372036854775808)]).run Tryz.prog w = .ok (.value (.float .f64 4607182418800017408)) w := by kernel_rfl
theorem f64frac (w : World) : (callFunc 127 #[.int .u64 (bits BinOp.or IntKind.u64 (bits BinOp.andNot IntKind.u64 4607182418800017408 9218868437227405312) 4602678819172646912)]).run Tryz.prog w = .ok (.value (.float .f64 4602678819172646912)) w := by kernel_rfl
set_option maxRecDepth 100000 in
set_option maxHeartbeats 1000000 in
theorem frexp1 (w : World) : Calls Tryz.prog 120 #[.float .f64 4607182418800017408] w fun e w' => e = .returned (.tuple #[.float .f64 4602678819172646912, .int .i64 1]) ∧ w' = w := by
  have h1 := f64bits
  have h2 := f64abs
  have h3 := f64frac
  have o1 : (FloatKind.f64.format.order 4607182418800017408 0 == some Ordering.eq) = false := by kernel_rfl
  have o2 : (FloatKind.f64.format.order 4607182418800017408 9218868437227405311 == some Ordering.gt) = false := by kernel_rfl
  have o3 : (FloatKind.f64.format.order 4607182418800017408 4607182418800017408 != some Ordering.eq) = false := by kernel_rfl
  have o4' : wrap64 (wrap64 (wrap64 (wrap64 (bits BinOp.and IntKind.u64 1023 2047) - 1023) + 1)) = 1 := by kernel_rfl
  have o4 := Lib.hid o4'; clear o4'
  go_enter Tryz.func120, Tryz.ntmps120
  go_wp2
  refine bodyPost_ret (v := .tuple #[.float .f64 4602678819172646912, .int .i64 1]) ?_ rfl ⟨rfl, rfl⟩
  rw [results_tmp2 rfl]
  exact congrArg (fun z => Result.ok (Value.tuple #[.float .f64 4602678819172646912, .int .i64 z]) w) o4.out

set_option maxRecDepth 100000 in
set_option maxHeartbeats 1000000 in
theorem log2one (w : World) : Calls Tryz.prog 96 #[.float .f64 4607182418800017408] w fun e w' => e = .returned (.float .f64 0) ∧ w' = w := by
  have hi' : floatOfInt .f64 0 = 0 := by kernel_rfl
  have hi := Lib.hid hi'; clear hi'
  have o1 : (FloatKind.f64.format.order 4602678819172646912 4602678819172646912 == some Ordering.eq) = true := by kernel_rfl
  go_enter Tryz.func96, Tryz.ntmps96
  go_wp2_with (first | (go_at_call 120; refine (frexp1 _).mono ?_; rintro e w' ⟨rfl, rfl⟩) | go_in)
  refine bodyPost_ret (v := .float .f64 0) ?_ rfl ⟨rfl, rfl⟩
  rw [results_tmp rfl]
  exact congrArg (fun z => Result.ok (Value.float .f64 z) _) hi.out

/-- The four bits of a frame's size; how many bits of it stand behind. -/
def sizeCode (x : Nat) : Int := if x = 192 then 1 else if x = 256 then 8 else 6
def sizeTail (x : Nat) : Nat := if x = 192 ∨ x = 256 then 0 else 8

set_option maxRecDepth 100000 in
set_option maxHeartbeats 1000000 in
/-- encodeFrameHeaderBlockSize. -/
theorem hBlock {B : Nat} (σ : Snk B) (W : Nat) (x : Nat) (s : List UInt8 × List Bool) (w : World) (h : BW σ W s w) (hx : x ≤ 256) (hl : cnt s + 4 ≤ 70368744177664) :
    Calls Tryz.prog 64 #[.pointer (some ⟨W, 0, none⟩), .int .u16 x] w fun e w' => e = .returned (.tuple #[.int .u8 (sizeTail x), .nilIface]) ∧ BW σ W (wrB s (bitsN (sizeCode x) 4)) w' ∧ Fr B (W :: σ.S) w w' := by
  have HL := Lib.hid hl; clear hl
  have H := Lib.hid h; clear h
  by_cases h1 : x = 192
  · subst h1
    go_enter Tryz.func64, Tryz.ntmps64
    go_wp2_with fail
    refine (wbits σ W _ 4 s w H.out (by omega) (by omega) (by omega) (by omega) HL.out).mono ?_
    rintro e w' ⟨rfl, hb⟩
    have HB := Lib.hid hb; clear hb
    go_wp2_with fail
    go_ret2
    exact ⟨rfl, HB.out⟩
  · by_cases h2 : x = 256
    · subst h2
      go_enter Tryz.func64, Tryz.ntmps64
      go_wp2_with fail
      rw [show floatOfInt FloatKind.f64 1 = 4607182418800017408 from by kernel_rfl]
      refine (log2one w).mono ?_
      rintro e w' ⟨rfl, rfl⟩
      have hcv : ∀ w, (convert 249 26 (.float .f64 0)).run Tryz.prog w = .ok (.int .u64 0) w := fun _ => by kernel_rfl
      go_wp2_with fail
      refine (wbits σ W _ 4 s _ H.out (by omega) (by omega) (by omega) (by omega) HL.out).mono ?_
      rintro e w' ⟨rfl, hb⟩
      have HB := Lib.hid hb; clear hb
      go_wp2_with fail
      go_ret2
      exact ⟨rfl, HB.out⟩
    · have e1 : Hid (sizeCode x = 6) := by show _ = _; unfold sizeCode; rw [if_neg h1, if_neg h2]
      have e2 : Hid (sizeTail x = 8) := by show _ = _; unfold sizeTail; rw [if_neg (by omega)]
      go_enter Tryz.func64, Tryz.ntmps64
      go_wp2_with fail
      refine (wbits σ W _ 4 s w H.out (by omega) (by omega) (by omega) (by omega) HL.out).mono ?_
      rintro e w' ⟨rfl, hb⟩
      have HB := Lib.hid hb; clear hb
      go_wp2_with fail
      go_ret2
      exact ⟨by rw [e2.out]; rfl, by rw [e1.out]; exact HB.out⟩
end Go.Proofs.YtemcpcgcnjahjaaGreatDoor
/-
  The rate, the channels and the bits of a frame as its header tells them.
-/
namespace Go.Proofs.YtemcpcgcnjahjaaGreatDoor
open Go.RowKit

/-- The four bits of a rate, and what stands behind. -/
def rateCode (x : Int) : Int := if x = 0 then 0 else if x = 176400 then 2 else if x = 8000 then 4 else if x = 44100 then 9 else if x = 48000 then 10 else if x = 96000 then 11 else if x = 12345 then 13 else 14
def rateTail (x : Int) : Int := if x = 12345 then 12345 else if x = 655350 then 65535 else 0
def rateTailN (x : Int) : Nat := if x = 12345 ∨ x = 655350 then 16 else 0
def RateOk (x : Int) : Prop := x = 0 ∨ x = 176400 ∨ x = 8000 ∨ x = 44100 ∨ x = 48000 ∨ x = 96000 ∨ x = 12345 ∨ x = 655350

set_option maxRecDepth 100000 in
set_option maxHeartbeats 4000000 in
/-- encodeFrameHeaderSampleRate. -/
theorem hRate {B : Nat} (σ : Snk B) (W : Nat) (x : Int) (s : List UInt8 × List Bool) (w : World) (h : BW σ W s w) (hx : RateOk x) (hl : cnt s + 4 ≤ 70368744177664) :
    Calls Tryz.prog 65 #[.pointer (some ⟨W, 0, none⟩), .int .u32 x] w fun e w' => e = .returned (.tuple #[.int .u64 (rateTail x), .int .u8 (rateTailN x), .nilIface]) ∧ BW σ W (wrB s (bitsN (rateCode x) 4)) w' ∧ Fr B (W :: σ.S) w w' := by
  have HL := Lib.hid hl; clear hl
  have H := Lib.hid h; clear h
  rcases hx with rfl | rfl | rfl | rfl | rfl | rfl | rfl | rfl
  all_goals
    go_enter Tryz.func65, Tryz.ntmps65
    go_wp2_with fail
    refine (wbits σ W _ 4 s _ H.out (by omega) (by omega) (by omega) (by omega) HL.out).mono ?_
    rintro e w' ⟨rfl, hb⟩
    have HB := Lib.hid hb; clear hb
    go_wp2_with fail
    go_ret3
    exact ⟨rfl, HB.out⟩

/-- The table of the numbers of channels, as it lies. -/
def NCh (w : World) : Prop := ∀ i : Nat, i < 8 → w.cell? ⟨0, i, none⟩ = some (.int .i64 ((i : Int) + 1))

set_option maxHeartbeats 400000 in
/-- Channels.Count. -/
theorem count (c : Nat) (hc : c < 8) (w : World) (h : NCh w) : Calls Tryz.prog 32 #[.int .u8 c] w fun e w' => e = .returned (.int .i64 ((c : Int) + 1)) ∧ w' = w := by
  have hcell := h c hc
  have H := Lib.hid h; clear h
  go_enter Tryz.func32, Tryz.ntmps32
  go_wp2_with fail
  go_ret
  exact ⟨rfl, rfl⟩

set_option maxRecDepth 100000 in
set_option maxHeartbeats 4000000 in
/-- encodeFrameHeaderChannels. -/
theorem hChannels {B : Nat} (σ : Snk B) (W : Nat) (c : Nat) (hc : c < 8) (s : List UInt8 × List Bool) (w : World) (h : BW σ W s w) (hN : NCh w) (hl : cnt s + 4 ≤ 70368744177664) :
    Calls Tryz.prog 66 #[.pointer (some ⟨W, 0, none⟩), .int .u8 c] w (Wrote σ W s (bitsN c 4) w) := by
  have HL := Lib.hid hl; clear hl
  have H := Lib.hid h; clear h
  have N := Lib.hid hN; clear hN
  match c, hc with
  | 0, _ | 1, _ | 2, _ | 3, _ | 4, _ | 5, _ | 6, _ | 7, _ =>
    go_enter Tryz.func66, Tryz.ntmps66
    go_wp2_with fail
    refine (count _ (by decide) w N.out).mono ?_
    rintro e w' ⟨rfl, rfl⟩
    go_wp2_with fail
    refine (wbits σ W _ 4 s _ H.out (by omega) (by omega) (by omega) (by omega) HL.out).mono ?_
    rintro e w' ⟨rfl, hb⟩
    have HB := Lib.hid hb; clear hb
    go_wp2_with fail
    go_ret
    exact ⟨rfl, HB.out⟩

/-- The three bits of the bits of a sample. -/
def bpsCode (x : Int) : Int := if x = 8 then 1 else if x = 12 then 2 else if x = 16 then 4 else if x = 20 then 5 else 6
def BpsOk (x : Int) : Prop := x = 8 ∨ x = 12 ∨ x = 16 ∨ x = 20 ∨ x = 24

set_option maxRecDepth 100000 in
set_option maxHeartbeats 4000000 in
/-- encodeFrameHeaderBitsPerSample. -/
theorem hBps {B : Nat} (σ : Snk B) (W : Nat) (x : Int) (s : List UInt8 × List Bool) (w : World) (h : BW σ W s w) (hx : BpsOk x) (hl : cnt s + 3 ≤ 70368744177664) :
    Calls Tryz.prog 67 #[.pointer (some ⟨W, 0, none⟩), .int .u8 x] w (Wrote σ W s (bitsN (bpsCode x) 3) w) := by
  have HL := Lib.hid hl; clear hl
  have H := Lib.hid h; clear h
  rcases hx with rfl | rfl | rfl | rfl | rfl
  all_goals
    go_enter Tryz.func67, Tryz.ntmps67
    go_wp2_with fail
    refine (wbits σ W _ 3 s _ H.out (by omega) (by omega) (by omega) (by omega) HL.out).mono ?_
    rintro e w' ⟨rfl, hb⟩
    have HB := Lib.hid hb; clear hb
    go_wp2_with fail
    go_ret
    exact ⟨rfl, HB.out⟩
end Go.Proofs.YtemcpcgcnjahjaaGreatDoor
