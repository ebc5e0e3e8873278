/-
  The reference's writer of bits.
-/
import Derived.Test.YtemcpcgcnjahjaaGreatDoorBase
import Derived.Test.YtemcpcgcnjahjaaGreatDoorBits
import Derived.Deep.CutRange
import Derived.StillTailTactics
namespace Go.Proofs.YtemcpcgcnjahjaaGreatDoor
open Go.RowKit

theorem i64_and_mask (x : Int) (i : Nat) (hi : i ≤ 62) : bits .and .i64 x ((2 ^ i - 1 : Nat) : Int) = x % 2 ^ i := by
  have hpos : 0 < 2 ^ i := Nat.two_pow_pos i
  have hle : 2 ^ i ≤ 2 ^ 62 := Nat.pow_le_pow_right (by decide) hi
  have h1 : ((x % 2 ^ 64).toNat : Int) = x % 2 ^ 64 := Int.toNat_of_nonneg (Int.emod_nonneg _ (by decide))
  have h2 : (BitVec.ofInt 64 x).toNat = (x % 2 ^ 64).toNat := by rw [BitVec.toNat_ofInt]; rfl
  have h3 : (2 ^ i - 1) % 2 ^ 64 = 2 ^ i - 1 := Nat.mod_eq_of_lt (by omega)
  have h4 : (x % 2 ^ 64).toNat % 2 ^ i < 2 ^ i := Nat.mod_lt _ hpos
  show IntKind.i64.wrap ((BitVec.ofInt 64 x &&& BitVec.ofInt 64 ((2 ^ i - 1 : Nat) : Int)).toNat : Int) = _
  rw [BitVec.ofInt_natCast, BitVec.toNat_and, h2, BitVec.toNat_ofNat, h3, Nat.and_two_pow_sub_one_eq_mod, IntKind.wrap_i64]
  have h5 : (((x % 2 ^ 64).toNat % 2 ^ i : Nat) : Int) = x % 2 ^ i := by
    rw [Int.natCast_emod, h1, Int.natCast_pow]
    exact Int.emod_emod_of_dvd _ ⟨2 ^ (64 - i), by
      show (2 : Int) ^ 64 = 2 ^ i * 2 ^ (64 - i)
      rw [← Int.pow_add, show i + (64 - i) = 64 by omega]⟩
  have h6 : (((x % 2 ^ 64).toNat % 2 ^ i : Nat) : Int) < 2 ^ 62 := by
    have : (x % 2 ^ 64).toNat % 2 ^ i < 2 ^ 62 := by omega
    exact_mod_cast this
  omega
theorem i64_and1 (x : Int) : bits .and .i64 x 1 = x % 2 := i64_and_mask x 1 (by decide)
theorem i64_and7 (x : Int) : bits .and .i64 x 7 = x % 8 := i64_and_mask x 3 (by decide)

/-- The reference's writer in block W: the bytes that are whole, and the bits behind them. -/
def SW (B W : Nat) (s : List UInt8 × List Bool) (w : World) : Prop :=
  ∃ v, w.heap[W]? = some (.cells #[v, .int .i64 (cnt s : Nat)] 158 (0, 0)) ∧ w.ownsRow B 5 1 v (outB s).length (Lib.byteCells (outB s)) ∧ s.2.length < 8 ∧ B ≤ W ∧ B ≤ w.heap.size

/-- The same, the last byte there even where no bits wait. -/
def SW1 (B W : Nat) (s : List UInt8 × List Bool) (w : World) : Prop :=
  ∃ g cap, w.heap[W]? = some (.cells #[.slice (some ⟨g, 0, none⟩) (s.1.length + 1) cap, .int .i64 (cnt s : Nat)] 158 (0, 0)) ∧ w.ownsRow B 5 1 (.slice (some ⟨g, 0, none⟩) (s.1.length + 1) cap) (s.1.length + 1) (Lib.byteCells (s.1 ++ [UInt8.ofNat (lastB s.2)])) ∧ s.2.length < 8 ∧ B ≤ W ∧ B ≤ w.heap.size

theorem SW.kp {B W : Nat} {s : List UInt8 × List Bool} {w w' : World} {L : List Nat} (h : SW B W s w) (k : Kp L w w') (hL : ∀ i ∈ L, i ≠ W ∧ NoRow w i) : SW B W s w' := by
  obtain ⟨v, h1, h2, h3, h4, h5⟩ := h
  refine ⟨v, k.at h1 (fun hm => (hL _ hm).1 rfl), ownsRow_kp h2 k ?_, h3, h4, Nat.le_trans h5 k.size⟩
  intro g hg hm
  rcases h2.2 with ⟨rfl, _⟩ | ⟨g', cap, cur, rfl, hb, hg', _⟩
  · simp [Value.ownBlock] at hg
  · simp only [Value.ownBlock, Option.some.injEq] at hg
    subst hg
    exact (hL _ hm).2 _ _ hg'

/-- The row of bytes that the writer in block W owns. -/
def ownOf (W : Nat) (w : World) : Option Nat := match w.heap[W]? with
  | some (.cells cs _ _) => ((cs[0]?).getD Value.nilIface).ownBlock
  | _ => none
theorem ownOf_eq {W : Nat} {w : World} {v x : Value} {T : TypeId} {fz : Nat × Nat} (h : w.heap[W]? = some (.cells #[v, x] T fz)) : ownOf W w = v.ownBlock := by
  unfold ownOf
  rw [h]; rfl
/-- Nothing but the writer and its row has turned. -/
structure Fo (W : Nat) (w w' : World) : Prop where
  size : w.heap.size ≤ w'.heap.size
  block : ∀ k, k < w.heap.size → k ≠ W → ownOf W w ≠ some k → w'.heap[k]? = w.heap[k]?
  own : ∀ g, ownOf W w' = some g → ownOf W w = some g ∨ w.heap.size ≤ g
theorem Fo.refl (W : Nat) (w : World) : Fo W w w := ⟨Nat.le_refl _, fun _ _ _ _ => rfl, fun _ h => .inl h⟩
theorem Fo.trans {W : Nat} {a b c : World} (h : Fo W a b) (k : Fo W b c) : Fo W a c := by
  refine ⟨Nat.le_trans h.size k.size, fun i hi hn ho => ?_, fun g hg => ?_⟩
  · rw [k.block i (Nat.lt_of_lt_of_le hi h.size) hn (fun hb => by
      rcases h.own i hb with h1 | h1
      · exact ho h1
      · omega), h.block i hi hn ho]
  · rcases k.own g hg with h1 | h1
    · exact h.own g h1
    · exact .inr (Nat.le_trans h.size h1)
theorem Fo.of {W : Nat} {w w' : World} {L : List Nat} (k : Kp L w w') (hL : ∀ i ∈ L, i < w.heap.size → i = W ∨ ownOf W w = some i) (ho : ∀ g, ownOf W w' = some g → ownOf W w = some g ∨ w.heap.size ≤ g) : Fo W w w' :=
  ⟨k.size, fun i hi hn h => k.block i hi (fun hm => by
    rcases hL i hm hi with h1 | h1
    · exact hn h1
    · exact h h1), ho⟩
theorem Fo.at {W : Nat} {w w' : World} (h : Fo W w w') {k : Nat} {o : Obj} (hk : w.heap[k]? = some o) (hn : k ≠ W) (ho : ownOf W w ≠ some k) : w'.heap[k]? = some o := by
  rw [h.block k (Lib.lt_of_heap hk) hn ho, hk]

theorem Tryz.info5c : (Tryz.prog.info? 5).map (fun i => (i.zero, i.size, i.bytes)) = some (some (.int .u8 0), 1, 1) := by kernel_rfl

theorem byteCells_append (l m : List UInt8) : Lib.byteCells (l ++ m) = Lib.byteCells l ++ Lib.byteCells m := by simp [Lib.byteCells]
theorem byteCells_length (l : List UInt8) : (Lib.byteCells l).length = l.length := by simp [Lib.byteCells]

/-- An append to a row of bytes that is owned: what stays. -/
theorem grow_fr {B : Nat} {w w1 : World} {v : Value} {n : Nat} {xs : List Value} {O : Obj} (hown : w.ownsRow B 5 1 v n xs) (hB : B ≤ w.heap.size) (hg : (w.alloc O).grownBy w1 v.ownBlock) : Fr B [] w w1 := by
  have ka : Kp [] w (w.alloc O) := Kp.alloc _ _ _
  have kg : Kp v.ownBlock.toList (w.alloc O) w1 := Kp.grown hg (by intro k hk; simp [hk])
  have hb : ∀ i ∈ v.ownBlock.toList, B ≤ i ∧ ∃ cur, w.heap[i]? = some (.cells cur 5 (0, 0)) := by
    intro i hi
    rcases hown.2 with ⟨rfl, _⟩ | ⟨g, cap, cur, rfl, hb, hg, _⟩
    · simp [Value.ownBlock] at hi
    · simp only [Value.ownBlock, Option.toList_some, List.mem_singleton] at hi
      subst hi
      exact ⟨hb, cur, hg⟩
  have kk : Kp v.ownBlock.toList w w1 := (ka.mono (by simp)).trans kg
  refine ⟨kk.os, kk.tape, kk.output, kk.size, fun i hi => kk.block i (Nat.lt_of_lt_of_le hi hB) (fun hm => by have := (hb i hm).1; omega), fun i hi _ hr => kk.block i hi (fun hm => ?_)⟩
  obtain ⟨_, cur, hc⟩ := hb i hm
  exact hr _ _ hc

theorem ne_of_types' {w : World} {a b : Nat} {c d : Array Value} {T U : TypeId} {f g : Nat × Nat} (h : w.heap[a]? = some (.cells c T f)) (k : w.heap[b]? = some (.cells d U g)) (hn : T ≠ U) : a ≠ b := by
  rintro rfl
  rw [h] at k
  simp at k
  exact hn k.2.1
/-- What a value owns is none of these blocks of another type. -/
theorem own_not {w : World} {B T U sz n W : Nat} {v : Value} {xs : List Value} {c : Array Value} {fz : Nat × Nat} (h : w.ownsRow B T sz v n xs) (hW : w.heap[W]? = some (.cells c U fz)) (hn : T ≠ U) : ∀ g, v.ownBlock = some g → g ∉ [W] := by
  intro g hg hm
  obtain rfl : g = W := by simpa using hm
  rcases h.2 with ⟨rfl, _⟩ | ⟨g', cap, cur, rfl, hb, hg', _⟩
  · simp [Value.ownBlock] at hg
  · simp only [Value.ownBlock, Option.some.injEq] at hg
    subst hg
    exact ne_of_types' hg' hW hn rfl
theorem SW1.done {B W : Nat} {s : List UInt8 × List Bool} {w : World} {b : Bool} {g cap : Nat} (hW : w.heap[W]? = some (.cells #[.slice (some ⟨g, 0, none⟩) (s.1.length + 1) cap, .int .i64 ((cnt s + 1 : Nat) : Int)] 158 (0, 0)))
    (ho : w.ownsRow B 5 1 (.slice (some ⟨g, 0, none⟩) (s.1.length + 1) cap) (s.1.length + 1) (Lib.byteCells (s.1 ++ [UInt8.ofNat (lastB (s.2 ++ [b]))]))) (hf : s.2.length < 8) (hB : B ≤ W) (hBs : B ≤ w.heap.size) : SW B W (pushB s b) w := by
  have e := outB_push s b
  refine ⟨.slice (some ⟨g, 0, none⟩) (s.1.length + 1) cap, ?_, ?_, pushB_rest s b hf, hB, hBs⟩
  · rw [cnt_pushB]; exact hW
  · rw [e, List.length_append, List.length_singleton]; exact ho

theorem bit_last (r : List Bool) (hr : r.length < 8) (x : Int) : bits .or .u8 (lastB r : Int) (x % 2 * 2 ^ (7 - r.length) % 256) = (lastB (r ++ [x % 2 == 1]) : Nat) := by
  rw [← last_or r _ hr]
  have hp : (2 : Nat) ^ (7 - r.length) ≤ 2 ^ 7 := Nat.pow_le_pow_right (by decide) (by omega)
  have h2 : (2 : Int) ^ (7 - r.length) = ((2 ^ (7 - r.length) : Nat) : Int) := by simp
  congr 1
  rw [h2]
  have h01 : x % 2 = 0 ∨ x % 2 = 1 := by omega
  rcases h01 with h | h
  · simp [h]
  · rw [h]
    simp only [beq_self_eq_true, Bool.toNat_true, Nat.one_mul, Int.one_mul]
    exact Int.emod_eq_of_lt (Int.natCast_nonneg _) (show _ < ((256 : Nat) : Int) from Int.ofNat_lt.2 (Nat.lt_of_le_of_lt hp (by decide)))

set_option maxRecDepth 100000 in
set_option maxHeartbeats 4000000 in
/-- (*writer).word. -/
theorem sword (B W : Nat) (v : Int) (n : Nat) (s : List UInt8 × List Bool) (w : World) (h : SW B W s w) (hn : n ≤ 62) (hl : cnt s + n ≤ 70368744177664) :
    Calls Tryz.prog 44 #[.pointer (some ⟨W, 0, none⟩), .int .i64 v, .int .i64 n] w fun e w' => e = .returned (.tuple #[]) ∧ SW B W (wrB s (bitsN v n)) w' ∧ Fr B [W] w w' ∧ Fo W w w' := by
  obtain ⟨i0, hi, hz0, hz1, hz2⟩ := info_parts Tryz.info5c
  have H := Lib.hid h; clear h
  have HL := Lib.hid hl; clear hl
  go_enter Tryz.func44, Tryz.ntmps44
  go_wp2_with fail
  go_loopw [6] (fun kv wx => ∃ k : Nat, k ≤ n ∧ kv = .int .i64 ((k : Int) - 1) ∧ SW B W (wrB s ((bitsN v n).take (n - k))) wx ∧ Fr B [W] w wx ∧ Fo W w wx) (fun kv _ => (intOf kv + 1).toNat)
  case atStart => exact ⟨n, by omega, rfl, by simpa [wrB_nil] using H.out, Fr.refl _ _ _, Fo.refl _ _⟩
  case round =>
    obtain ⟨k, hk, rfl, hs, hfr, hfo⟩ := hrel
    by_cases hk0 : k = 0
    · subst hk0
      have hend : Hid (SW B W (wrB s (bitsN v n)) wr ∧ Fr B [W] w wr ∧ Fo W w wr) := ⟨by rwa [Nat.sub_zero, List.take_of_length_le (by rw [bitsN_length]; omega)] at hs, hfr, hfo⟩
      clear hs hfr hfo
      go_wp2_with fail
      go_end0
      exact ⟨rfl, hend.out⟩
    · have hk0' : 0 < k := by omega
      have HFR := Lib.hid hfr; clear hfr
      have HFO := Lib.hid hfo; clear hfo
      have hstep : Hid (wrB s ((bitsN v n).take (n - (k - 1))) = pushB (wrB s ((bitsN v n).take (n - k))) (v / 2 ^ (k - 1) % 2 == 1)) := by
        show _ = _
        rw [bitsN_step v n k hk0' hk, wrB_snoc]
      have hlen : Hid (cnt (wrB s ((bitsN v n).take (n - k))) + 1 ≤ 70368744177664) := by
        have h1 := cnt_wrB s ((bitsN v n).take (n - k))
        have h2 : ((bitsN v n).take (n - k)).length ≤ n - k := by rw [List.length_take]; omega
        have h3 := HL.out
        show _ ≤ _
        omega
      generalize wrB s ((bitsN v n).take (n - k)) = s1 at hs hstep hlen
      obtain ⟨vv, hW, hown, hf, hBW, hBs⟩ := hs
      have HW := Lib.hid hW
      have HO := Lib.hid hown
      have c0 := Lib.cell_of_heap hW 0
      have c1 := Lib.cell_of_heap hW 1
      have z0 := Lib.frozen_of_heap hW 0
      simp only [List.getElem?_toArray, List.getElem?_cons_zero, List.getElem?_cons_succ] at c0 c1
      have hA : bits .and .i64 ((cnt s1 : Nat) : Int) 7 = ((s1.2.length : Nat) : Int) := by
        rw [i64_and7]
        have := cnt_mod s1 hf
        omega
      have hWl := Lib.lt_of_heap hW
      clear hW hown
      go_upto_if 18 with fail
      go_cut [] from 9 to 59 (fun wx => SW1 B W s1 wx ∧ Fr B [W] wr wx ∧ Fo W wr wx)
      case first =>
        by_cases h0 : s1.2.length = 0
        · have hb0 : (((s1.2.length : Nat) : Int) == 0) = true := by simp [h0]
          have hE0 : s1.2 = [] := List.eq_nil_of_length_eq_zero h0
          have HOA := Lib.hid (HO.out.alloc (.cells #[.int .u8 0] 5))
          have hol : (outB s1).length + 1 ≤ 70368744177664 := by
            have h1 := outB_length s1
            have h2 := hlen.out
            unfold cnt at h2
            split at h1 <;> omega
          have hsz : Hid (B ≤ (wr.alloc (.cells #[.int .u8 0] 5)).heap.size) := by
            show _ ≤ _
            simp only [World.size_alloc]; omega
          go_wp2_with (at_builtin; refine wpList_append_lies _ rfl _ _ 23 rfl B 5 i0 (.int .u8 0) 1 1 Tryz.underlying23 hi hz0 hz1 hz2 rfl (by decide) vv _ _ rfl HOA.out ⟨wr.heap.size, 0, none⟩ 1 1 [.int .u8 0] rfl rfl (cell_one_new _ _ _) (by simp [Value.oneCell']) (by decide) (by unfold maxLen; omega) (by omega) hsz.out _ rfl ?_)
          intro g cap w1 hown1 hgrow hat _
          have HKG : Hid (Kp vv.ownBlock.toList wr w1) := ((Kp.alloc [] _ _).mono (by simp)).trans (Kp.grown hgrow (by intro k hk; simp [hk]))
          have HAT : Hid (∀ i, some g = some i → vv.ownBlock = some i ∨ wr.heap.size ≤ i) := by
            show ∀ i, _
            intro i hi
            cases hi
            rcases hat with h | h
            · exact .inl h
            · exact .inr (by omega)
          clear hat
          have HG := Lib.hid (grow_fr HO.out hBs hgrow)
          have HO1 := Lib.hid hown1
          clear hown1 hgrow
          have HW1 : Hid (w1.heap[W]? = some (.cells #[vv, .int .i64 (cnt s1 : Nat)] 158 (0, 0))) := by
            show _ = _
            exact HG.out.at HW.out (by simp) (by decide)
          have c0 := Lib.cell_of_heap HW1.out 0
          have z0 := Lib.frozen_of_heap HW1.out 0
          simp only [List.getElem?_toArray, List.getElem?_cons_zero] at c0
          go_wp2_with fail
          go_meet
          case rel =>
            have e : outB s1 = s1.1 := outB_whole s1 hE0
            have ho := HO1.out
            rw [e] at ho ⊢
            have hx : Lib.byteCells s1.1 ++ [.int .u8 0] = Lib.byteCells (s1.1 ++ [UInt8.ofNat (lastB s1.2)]) := by
              rw [byteCells_append, hE0]; rfl
            rw [hx] at ho
            have hks : Kp [W] w1 (w1.setCell ⟨W, 0, none⟩ (.slice (some ⟨g, 0, none⟩) (s1.1.length + 1) cap)) := Kp.setCell _ _ _ (by simp)
            refine ⟨⟨g, cap, ?_, ownsRow_kp ho hks (own_not ho HW1.out (by decide)), hf, hBW, Nat.le_trans hBs (Nat.le_trans HG.out.size hks.size)⟩, (HG.out.mono (Nat.le_refl _) (by simp)).trans (hks.fr (Nat.le_trans hBs HG.out.size) (by simpa using hBW)), ?_⟩
            · rw [heap_set HW1.out]; simp
            · have hwn : (w1.setCell ⟨W, 0, none⟩ (.slice (some ⟨g, 0, none⟩) (s1.1.length + 1) cap)).heap[W]? = some (.cells #[.slice (some ⟨g, 0, none⟩) (s1.1.length + 1) cap, .int .i64 (cnt s1 : Nat)] 158 (0, 0)) := by
                rw [heap_set HW1.out]; simp
              refine Fo.of (L := W :: vv.ownBlock.toList) ((HKG.out.mono (fun i _ hi => List.mem_cons_of_mem _ hi)).trans (hks.mono (fun i _ hi => by simp at hi; simp [hi]))) (fun i hi _ => ?_) (fun i hi => ?_)
              · rcases List.mem_cons.1 hi with h | h
                · exact .inl h
                · right
                  rw [ownOf_eq HW.out]
                  simpa using h
              · rw [ownOf_eq hwn] at hi
                rw [ownOf_eq HW.out]
                exact HAT.out i (by simpa [Value.ownBlock] using hi)
        · have hb0 : (((s1.2.length : Nat) : Int) == 0) = false := by simp [h0]
          go_wp2_with fail
          go_meet
          case rel =>
            refine ⟨?_, Fr.refl _ _ _, Fo.refl _ _⟩
            have h1 := HO.out
            have h2 := HW.out
            obtain ⟨g, cap, rfl, _, _⟩ := h1.form (by rw [outB_length, if_neg h0]; omega)
            have e : outB s1 = s1.1 ++ [UInt8.ofNat (lastB s1.2)] := by unfold outB; rw [if_neg h0]
            rw [e] at h1 h2
            rw [List.length_append, List.length_singleton] at h1 h2
            exact ⟨g, cap, h2, h1, hf, hBW, hBs⟩
      case rest =>
        obtain ⟨⟨g, cap, hW, hown, _, _, hBc⟩, hfc, hfo⟩ := hcut
        have HFC2 := Lib.hid hfo
        clear hfo
        clear c0 c1 z0 HW HO
        have HFC := Lib.hid hfc
        have HW := Lib.hid hW
        have HO := Lib.hid hown
        have c0 := Lib.cell_of_heap hW 0
        have c1 := Lib.cell_of_heap hW 1
        simp only [List.getElem?_toArray, List.getElem?_cons_zero, List.getElem?_cons_succ] at c0 c1
        have hcl := hown.cellAt s1.1.length (by omega)
        have hz := hown.frozenAt s1.1.length
        have hlast : (Lib.byteCells (s1.1 ++ [UInt8.ofNat (lastB s1.2)]))[s1.1.length]? = some (.int .u8 (lastB s1.2 : Nat)) := by
          have h1 := lastB_lt s1.2 (by omega)
          rw [byteCells_append, List.getElem?_append_right (by rw [byteCells_length]; exact Nat.le_refl _), byteCells_length, Nat.sub_self]
          simp only [Lib.byteCells, List.map_cons, List.getElem?_cons_zero, UInt8.toNat_ofNat']
          rw [Nat.mod_eq_of_lt (by omega)]
        rw [hlast] at hcl
        have hS : ((cnt s1 : Nat) : Int) / 8 = ((s1.1.length : Nat) : Int) := by
          have := cnt_div s1 hf
          omega
        clear hW hown hfc hlast
        have hA1 := i64_and1
        have hb1 : ((s1.1.length : Nat) : Int) < ((s1.1.length + 1 : Nat) : Int) := by omega
        have hb2 : ((s1.1.length : Nat) : Int) < ((s1.1.length : Nat) : Int) + 1 := by omega
        have hk1 : (0 : Int) ≤ (k : Int) - 1 := by omega
        have hk2 : ((k : Int) - 1).toNat = k - 1 := by omega
        have hs0 : (0 : Int) ≤ 7 - ((s1.2.length : Nat) : Int) := by omega
        have hs1 : (7 - ((s1.2.length : Nat) : Int)).toNat = 7 - s1.2.length := by omega
        have hs2 : IntKind.i64.wrap (7 - ((s1.2.length : Nat) : Int)) = 7 - ((s1.2.length : Nat) : Int) := by rw [IntKind.wrap_i64]; omega
        have hs3 : ((s1.2.length : Nat) : Int) ≤ 7 := by omega
        go_upto_region 5 with fail
        go_still_tail 24, (by kernel_rfl)
        change wpList _ _ _ _ _ wc.drew
        go_upto_region 6 with fail
        rw [bit_last s1.2 hf]
        have hOS := (HO.out.stored s1.1.length (.int .u8 (lastB (s1.2 ++ [v / 2 ^ (k - 1) % 2 == 1]) : Nat))).1
        have hgW : g ≠ W := fun e => own_not HO.out HW.out (by decide) g rfl (by simp [e])
        have hset : (Lib.byteCells (s1.1 ++ [UInt8.ofNat (lastB s1.2)])).set s1.1.length (.int .u8 (lastB (s1.2 ++ [v / 2 ^ (k - 1) % 2 == 1]) : Nat)) = Lib.byteCells (s1.1 ++ [UInt8.ofNat (lastB (s1.2 ++ [v / 2 ^ (k - 1) % 2 == 1]))]) := by
          have h1 := lastB_lt (s1.2 ++ [v / 2 ^ (k - 1) % 2 == 1]) (by simp; omega)
          rw [byteCells_append, byteCells_append, List.set_append_right _ _ (by rw [byteCells_length]; exact Nat.le_refl _), byteCells_length, Nat.sub_self]
          simp only [Lib.byteCells, List.map_cons, List.map_nil, List.set_cons_zero, UInt8.toNat_ofNat']
          rw [Nat.mod_eq_of_lt (by omega : lastB (s1.2 ++ [v / 2 ^ (k - 1) % 2 == 1]) < 2 ^ 8)]
        rw [hset] at hOS
        have hWS := heap_set_other (i := s1.1.length) (v := .int .u8 (lastB (s1.2 ++ [v / 2 ^ (k - 1) % 2 == 1]) : Nat)) HW.out (Ne.symm hgW)
        have hKS : Fr B [] wc (wc.setCell ⟨g, s1.1.length, none⟩ (.int .u8 (lastB (s1.2 ++ [v / 2 ^ (k - 1) % 2 == 1]) : Nat))) := by
          have k1 : Kp [g] wc (wc.setCell ⟨g, s1.1.length, none⟩ (.int .u8 (lastB (s1.2 ++ [v / 2 ^ (k - 1) % 2 == 1]) : Nat))) := Kp.setCell _ _ _ (by simp)
          rcases HO.out.2 with ⟨h, _⟩ | ⟨g', cap', cur, h, hb, hg', _⟩
          · cases h
          · cases h
            exact ⟨k1.os, k1.tape, k1.output, k1.size, fun i hi => k1.block i (by omega) (by simp; omega), fun i hi _ hr => k1.block i hi (fun hm => by
              obtain rfl : i = g := by simpa using hm
              exact hr _ _ hg')⟩
        have hFS : Fo W wc (wc.setCell ⟨g, s1.1.length, none⟩ (.int .u8 (lastB (s1.2 ++ [v / 2 ^ (k - 1) % 2 == 1]) : Nat))) := by
          refine Fo.of (L := [g]) (Kp.setCell _ _ _ (by simp)) (fun i hi _ => ?_) (fun i hi => ?_)
          · right
            rw [ownOf_eq HW.out]
            simp only [List.mem_singleton] at hi
            simp [Value.ownBlock, hi]
          · rw [ownOf_eq hWS] at hi
            rw [ownOf_eq HW.out]
            exact .inl hi
        generalize wc.setCell ⟨g, s1.1.length, none⟩ (.int .u8 (lastB (s1.2 ++ [v / 2 ^ (k - 1) % 2 == 1]) : Nat)) = w2 at hOS hWS hKS hFS ⊢
        have HFS := Lib.hid hFS
        clear hFS
        clear hset c0 c1 hcl hz hb1 hb2 hS hA1 hs0 hs1 hs2 hs3
        have HW2 := Lib.hid hWS
        have HO2 := Lib.hid hOS
        have HK2 := Lib.hid hKS
        have c1 := Lib.cell_of_heap hWS 1
        have z1 := Lib.frozen_of_heap hWS 1
        simp only [List.getElem?_toArray, List.getElem?_cons_zero, List.getElem?_cons_succ] at c1
        have hcc := hlen.out
        clear hWS hOS hKS hA
        go_wp2_with fail
        go_roundw
        case rel =>
          refine ⟨k - 1, by omega, by congr 1; omega, ?_, ?_, ?_⟩
          · rw [hstep.out]
            have hks : Kp [W] w2 ((w2.setCell ⟨W, 1, none⟩ (.int .i64 ((cnt s1 : Nat) + 1))).drew) := (Kp.setCell _ _ _ (by simp)).trans (Kp.drew _ _)
            refine SW1.done (g := g) (cap := cap) ?_ (ownsRow_kp HO2.out hks (own_not HO2.out HW2.out (by decide))) hf hBW (Nat.le_trans hBc (Nat.le_trans HK2.out.size hks.size))
            show (w2.setCell ⟨W, 1, none⟩ (.int .i64 ((cnt s1 : Nat) + 1))).heap[W]? = _
            rw [heap_set HW2.out]; simp
          · have hks : Kp [W] w2 ((w2.setCell ⟨W, 1, none⟩ (.int .i64 ((cnt s1 : Nat) + 1))).drew) := (Kp.setCell _ _ _ (by simp)).trans (Kp.drew _ _)
            exact ((HFR.out.trans HFC.out).trans (HK2.out.mono (Nat.le_refl _) (by simp))).trans (hks.fr (Nat.le_trans hBc HK2.out.size) (by simpa using hBW))
          · have hks : Kp [W] w2 ((w2.setCell ⟨W, 1, none⟩ (.int .i64 ((cnt s1 : Nat) + 1))).drew) := (Kp.setCell _ _ _ (by simp)).trans (Kp.drew _ _)
            have hwn : ((w2.setCell ⟨W, 1, none⟩ (.int .i64 ((cnt s1 : Nat) + 1))).drew).heap[W]? = some (.cells #[.slice (some ⟨g, 0, none⟩) (s1.1.length + 1) cap, .int .i64 ((cnt s1 : Nat) + 1)] 158 (0, 0)) := by
              show (w2.setCell ⟨W, 1, none⟩ (.int .i64 ((cnt s1 : Nat) + 1))).heap[W]? = _
              rw [heap_set HW2.out]; simp
            refine ((HFO.out.trans HFC2.out).trans HFS.out).trans (Fo.of hks (fun i hi _ => .inl (by simpa using hi)) (fun i hi => ?_))
            rw [ownOf_eq hwn] at hi
            rw [ownOf_eq HW2.out]
            exact .inl hi
        case measure => simp [intOf]; omega

theorem SW.len {B W : Nat} {s : List UInt8 × List Bool} {w : World} (h : SW B W s w) : W < w.heap.size := by
  obtain ⟨v, h1, _⟩ := h
  exact Lib.lt_of_heap h1
theorem SW.few {B W : Nat} {s : List UInt8 × List Bool} {w : World} (h : SW B W s w) : s.2.length < 8 := by
  obtain ⟨v, _, _, h3, _⟩ := h
  exact h3
theorem SW.baseLe {B W : Nat} {s : List UInt8 × List Bool} {w : World} (h : SW B W s w) : B ≤ w.heap.size := by
  obtain ⟨v, _, _, _, _, h5⟩ := h
  exact h5

/-- What a call on the reference's writer comes to. -/
def SWrote (B W : Nat) (s : List UInt8 × List Bool) (l : List Bool) (w : World) (e : Ending) (w' : World) : Prop :=
  e = .returned (.tuple #[]) ∧ SW B W (wrB s l) w' ∧ Fr B [W] w w' ∧ Fo W w w'

theorem swordI (B W : Nat) (v n : Int) (s : List UInt8 × List Bool) (w : World) (h : SW B W s w) (h0 : 0 ≤ n) (hn : n ≤ 62) (hl : cnt s + n.toNat ≤ 70368744177664) :
    Calls Tryz.prog 44 #[.pointer (some ⟨W, 0, none⟩), .int .i64 v, .int .i64 n] w (SWrote B W s (bitsN v n.toNat) w) := by
  obtain ⟨m, rfl⟩ := Int.eq_ofNat_of_zero_le h0
  exact sword B W v m s w h (by omega) hl

set_option maxRecDepth 100000 in
set_option maxHeartbeats 4000000 in
/-- (*writer).unary. -/
theorem sunary (B W m : Nat) (s : List UInt8 × List Bool) (w : World) (h : SW B W s w) (hm : m ≤ 1000000) (hl : cnt s + m + 1 ≤ 70368744177664) :
    Calls Tryz.prog 85 #[.pointer (some ⟨W, 0, none⟩), .int .i64 m] w (SWrote B W s (unaryB m) w) := by
  have H := Lib.hid h; clear h
  have HL := Lib.hid hl; clear hl
  go_enter Tryz.func85, Tryz.ntmps85
  go_wp2_with fail
  go_loopw [5] (fun j wx => ∃ k : Nat, k ≤ m ∧ j = .int .i64 k ∧ SW B W (wrB s (List.replicate k false)) wx ∧ Fr B [W] w wx ∧ Fo W w wx) (fun j _ => m - (intOf j).toNat)
  case atStart => exact ⟨0, by omega, rfl, by simpa [wrB_nil] using H.out, Fr.refl _ _ _, Fo.refl _ _⟩
  case round =>
    obtain ⟨k, hk, rfl, hs, hf, ho⟩ := hrel
    have HO := Lib.hid ho
    clear ho
    have HS := Lib.hid hs
    have HF := Lib.hid hf
    clear hs hf
    by_cases hkm : k < m
    · go_wp2_with fail
      refine (swordI B W 0 1 _ _ HS.out (by omega) (by omega) (by have := HL.out; rw [cnt_wrB, List.length_replicate]; simp; omega)).mono ?_
      rintro e w1 ⟨rfl, h1, h2, h3⟩
      have H3 := Lib.hid (HO.out.trans h3)
      clear h3
      rw [show bitsN 0 (1 : Int).toNat = [false] from rfl, ← wrB_append, show List.replicate k false ++ [false] = List.replicate (k + 1) false from by rw [List.replicate_succ']] at h1
      have H1 := Lib.hid h1
      have H2 := Lib.hid (HF.out.trans h2)
      clear h1 h2
      go_wp2_with fail
      go_roundw
      case rel => exact ⟨k + 1, by omega, by go_num, H1.out, H2.out, H3.out⟩
      case measure => simp [intOf]; omega
    · obtain rfl : k = m := by omega
      go_wp2_with fail
      refine (swordI B W 1 1 _ _ HS.out (by omega) (by omega) (by have := HL.out; rw [cnt_wrB, List.length_replicate]; simp; omega)).mono ?_
      rintro e w1 ⟨rfl, h1, h2, h3⟩
      have H3 := Lib.hid (HO.out.trans h3)
      clear h3
      rw [show bitsN 1 (1 : Int).toNat = [true] from rfl, ← wrB_append] at h1
      have H1 := Lib.hid h1
      have H2 := Lib.hid (HF.out.trans h2)
      clear h1 h2
      go_wp2_with fail
      go_end0
      exact ⟨rfl, H1.out, H2.out, H3.out⟩

set_option maxHeartbeats 4000000 in
/-- spec.Folded. -/
theorem folded (x : Int) (w : World) (h1 : -4294967296 ≤ x) (h2 : x ≤ 4294967296) : Calls Tryz.prog 86 #[.int .i64 x] w fun e w' => e = .returned (.int .i64 (foldI x)) ∧ w' = w := by
  have HF : Hid (foldI x = if x < 0 then -2 * x - 1 else 2 * x) := rfl
  by_cases h : x < 0
  · have HE : Hid (foldI x = -2 * x - 1) := by show _ = _; rw [HF.out, if_pos h]
    go_enter Tryz.func86, Tryz.ntmps86
    go_wp2_with fail
    go_ret
    exact ⟨by rw [HE.out]; rfl, rfl⟩
  · have HE : Hid (foldI x = 2 * x) := by show _ = _; rw [HF.out, if_neg h]
    go_enter Tryz.func86, Tryz.ntmps86
    go_wp2_with fail
    go_ret
    exact ⟨by rw [HE.out]; rfl, rfl⟩
end Go.Proofs.YtemcpcgcnjahjaaGreatDoor
