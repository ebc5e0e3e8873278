/-
  A channel: its header, its number alone, its numbers as they stand; a rest.
-/
import Derived.Test.YtemcpcgcnjahjaaGreatDoorBitioB
namespace Go.Proofs.YtemcpcgcnjahjaaGreatDoor
open Go.RowKit

/-- The six bits of a channel's kind. -/
def kindCode (k o : Nat) : Int := if k = 0 then 0 else if k = 1 then 1 else 8 + (o : Int)
/-- The bits ahead of a channel. -/
def subHead (k o : Nat) : List Bool := bitsN 0 1 ++ bitsN (kindCode k o) 6 ++ [false]

/-- Between the calls: a block that the writer does not turn. -/
def BS {B : Nat} (σ : Snk B) (W H : Nat) (o : Obj) (wA : World) (s : List UInt8 × List Bool) (w : World) : Prop :=
  BW σ W s w ∧ Fr B (W :: σ.S) wA w ∧ w.heap[H]? = some o

theorem BS.next {B : Nat} {σ : Snk B} {W H : Nat} {hc : Array Value} {T : TypeId} {fz : Nat × Nat} {wA w w' : World} {s s' : List UInt8 × List Bool} (h : BS σ W H (.cells hc T fz) wA s w) (hT : T ≠ 5) (hn : H ∉ W :: σ.S) (hb : BW σ W s' w') (hf : Fr B (W :: σ.S) w w') : BS σ W H (.cells hc T fz) wA s' w' :=
  ⟨hb, h.2.1.trans hf, hf.at h.2.2 hn hT⟩

/-- A new block is none of the writer's. -/
theorem BW.new {B : Nat} {σ : Snk B} {W : Nat} {s : List UInt8 × List Bool} {w : World} (h : BW σ W s w) : w.heap.size ∉ W :: σ.S := by
  intro hm
  rcases List.mem_cons.1 hm with e | e
  · have := h.lt; omega
  · have := ((σ.live h.sink).2 _ e).2.1; omega

theorem BS.start {B : Nat} {σ : Snk B} {W : Nat} {s : List UInt8 × List Bool} {w : World} (o : Obj) (h : BW σ W s w) : BS σ W w.heap.size o w s (w.alloc o) :=
  ⟨h.alloc o, Kp.fr (S := []) (Kp.alloc _ _ _) h.baseLe (by simp) |>.mono (Nat.le_refl _) (by simp), heap_alloc_new _ _⟩

set_option maxRecDepth 100000 in
set_option maxHeartbeats 4000000 in
/-- encodeSubframeHeader. -/
theorem encSubHeader {B : Nat} (σ : Snk B) (W : Nat) (k o : Nat) (v3 v4 v5 v6 v7 : Value) (s : List UInt8 × List Bool) (w : World) (h : BW σ W s w) (hk : k ≤ 2) (ho : o ≤ 4) (hl : cnt s + 8 ≤ 70368744177664) :
    Calls Tryz.prog 73 #[.pointer (some ⟨W, 0, none⟩), .agg #[.int .u8 k, .int .i64 o, .int .u64 0, v3, v4, v5, v6, v7]] w (Wrote σ W s (subHead k o) w) := by
  have HL := Lib.hid hl; clear hl
  have H := Lib.hid h; clear h
  go_enter Tryz.func73, Tryz.ntmps73
  go_wp2_with fail
  have H1 := Lib.hid (BS.start (.cells #[.int .u8 k, .int .i64 o, .int .u64 0, v3, v4, v5, v6, v7] 127 (0, 0)) H.out)
  have HN := Lib.hid H.out.new
  refine (wbits σ W _ 1 _ _ H1.out.1 (by omega) (by omega) (by omega) (by omega) (by have := HL.out; omega)).mono ?_
  rintro e w1 ⟨rfl, hb, hf⟩
  have H2 := Lib.hid (H1.out.next (by decide) HN.out hb hf); clear hb hf
  have hf := Lib.frozen_of_heap H2.out.2.2 0
  have c0 := Lib.cell_of_heap H2.out.2.2 0
  have c1 := Lib.cell_of_heap H2.out.2.2 1
  simp only [List.getElem?_toArray, List.getElem?_cons_zero, List.getElem?_cons_succ] at c0 c1
  have HK : Hid (kindCode k o = if k = 0 then 0 else if k = 1 then 1 else 8 + (o : Int)) := rfl
  have ho8 : Hid (bits .or .u64 8 (o : Int) = 8 + (o : Int)) := by
    have := or_join 8 o 3 (by decide) (by omega) (by omega) (by omega)
    show _ = _
    simpa using this
  have HKc : Hid (0 ≤ kindCode k o ∧ kindCode k o < 64) := by
    show _ ∧ _
    rw [HK.out]; split
    · omega
    · split <;> omega
  have hk3 : k = 0 ∨ k = 1 ∨ k = 2 := by omega
  clear hk
  rcases hk3 with rfl | rfl | rfl
  all_goals
    have ho9 := ho8.out
    have hko := HK.out
    simp at hko
    have HKO := Lib.hid hko; clear hko
    go_wp2_with fail
    clear ho9
    refine (wbits σ W _ 6 _ _ H2.out.1 (by omega) (by omega) (by omega) (by omega) (by have := HL.out; rw [cnt_wrB, bitsN_length]; simp; omega)).mono ?_
    rintro e w2 ⟨rfl, hb, hf2⟩
    have H3 := Lib.hid (H2.out.next (by decide) HN.out hb hf2); clear hb hf2 c0 c1 hf
    have c2 := Lib.cell_of_heap H3.out.2.2 2
    simp only [List.getElem?_toArray, List.getElem?_cons_zero, List.getElem?_cons_succ] at c2
    go_wp2_with fail
    refine (wbool σ W _ _ _ H3.out.1 (by have := HL.out; rw [cnt_wrB, cnt_wrB, bitsN_length, bitsN_length]; simp; omega)).mono ?_
    rintro e w3 ⟨rfl, hb, hf3⟩
    have H4 := H3.out.next (by decide) HN.out hb hf3; clear hb hf3 c2
    go_wp2_with fail
    go_ret
    refine ⟨rfl, ?_, H4.2.1⟩
    have := H4.1
    rw [← wrB_append, ← wrB_append] at this
    unfold subHead
    rw [HKO.out]
    exact this

/-- A channel as it is given. -/
structure PSub where
  kind : Nat
  ord : Nat
  parts : Nat
  pars : List Nat
  smp : List Int

/-- A channel as it lies: its blocks are a, R, P, g. -/
structure SubAt (s : PSub) (a R P g cap pcap : Nat) (v4 v5 v6 : Value) (w : World) : Prop where
  sub : w.heap[a]? = some (.cells #[.int .u8 s.kind, .int .i64 s.ord, .int .u64 0, .int .u8 0, v4, v5, v6, .pointer (some ⟨R, 0, none⟩), .slice (some ⟨g, 0, none⟩) s.smp.length cap, .int .i64 s.smp.length] 129 (0, 0))
  rice : w.heap[R]? = some (.cells #[.int .i64 s.parts, .slice (some ⟨P, 0, none⟩) s.pars.length pcap] 133 (0, 0))
  pars : ∃ pc : Array Value, w.heap[P]? = some (.cells pc 135 (0, 0)) ∧ ∀ (j p : Nat), s.pars[j]? = some p → pc[2 * j]? = some (.int .u64 (p : Nat))
  smp : ∃ sc : Array Value, w.heap[g]? = some (.cells sc 21 (0, 0)) ∧ ∀ (j : Nat) (x : Int), s.smp[j]? = some x → sc[j]? = some (.int .i32 x)
  le : s.smp.length ≤ cap

theorem SubAt.fr {s : PSub} {a R P g cap pcap B : Nat} {v4 v5 v6 : Value} {w w' : World} {S : List Nat} (h : SubAt s a R P g cap pcap v4 v5 v6 w) (f : Fr B S w w') (hL : ∀ k ∈ [a, R, P, g], k ∉ S) : SubAt s a R P g cap pcap v4 v5 v6 w' := by
  obtain ⟨pc, hP, hp⟩ := h.pars
  obtain ⟨sc, hG, hg⟩ := h.smp
  exact ⟨f.at h.sub (hL _ (by simp)) (by decide), f.at h.rice (hL _ (by simp)) (by decide), ⟨pc, f.at hP (hL _ (by simp)) (by decide), hp⟩, ⟨sc, f.at hG (hL _ (by simp)) (by decide), hg⟩, h.le⟩

theorem SubAt.get {s : PSub} {a R P g cap pcap : Nat} {v4 v5 v6 : Value} {w : World} (h : SubAt s a R P g cap pcap v4 v5 v6 w) (j : Nat) (hj : j < s.smp.length) : w.cell? ⟨g, j, none⟩ = some (.int .i32 (s.smp.getD j 0)) := by
  obtain ⟨sc, hG, hg⟩ := h.smp
  rw [Lib.cell_of_heap hG]
  refine hg j _ ?_
  rw [List.getD_eq_getElem?_getD, List.getElem?_eq_getElem hj]
  rfl

set_option maxRecDepth 100000 in
set_option maxHeartbeats 4000000 in
/-- encodeConstantSamples. -/
theorem encConst {B : Nat} (σ : Snk B) (W : Nat) (c : PSub) (a R P g cap pcap : Nat) (v4 v5 v6 : Value) (bps : Nat) (s : List UInt8 × List Bool) (w : World) (h : BW σ W s w)
    (hs : SubAt c a R P g cap pcap v4 v5 v6 w) (hn : 1 ≤ c.smp.length) (hn2 : c.smp.length ≤ 65535) (hsame : ∀ j, j < c.smp.length → c.smp.getD j 0 = c.smp.getD 0 0)
    (hb : bps ≤ 64) (hl : cnt s + bps ≤ 70368744177664) (f0 f1 f2 f3 f4 f5 : Value) :
    Calls Tryz.prog 75 #[.pointer (some ⟨W, 0, none⟩), .agg #[f0, f1, f2, f3, f4, f5], .pointer (some ⟨a, 0, none⟩), .int .u64 bps] w (Wrote σ W s (bitsN (c.smp.getD 0 0) bps) w) := by
  have HL := Lib.hid hl; clear hl
  have H := Lib.hid h; clear h
  have a1 := Lib.lt_of_heap hs.sub
  have a2 := World.block_lt_of_cell? _ _ (hs.get 0 hn)
  go_enter Tryz.func75, Tryz.ntmps75
  have c1 := Lib.cell_of_heap hs.sub 8
  simp only [List.getElem?_toArray, List.getElem?_cons_zero, List.getElem?_cons_succ] at c1
  have c2 := hs.get 0 hn
  have hle := hs.le
  have HS := Lib.hid hs; clear hs
  have HSM := Lib.hid hsame; clear hsame
  generalize c.smp.getD 0 0 = x0 at c2 HSM ⊢
  have H2 := Lib.hid (H.out.alloc (.cells #[f0, f1, f2, f3, f4, f5] 69))
  have HF := Lib.hid (Kp.fr (S := []) (Kp.alloc [] w (.cells #[f0, f1, f2, f3, f4, f5] 69)) H.out.baseLe (by simp))
  have HI : ∀ (off : Nat), Hid (off = 1 ∨ c.smp.length = 1) → ∀ k : Nat, k + 1 < c.smp.length → Hid ((w.alloc (.cells #[f0, f1, f2, f3, f4, f5] 69)).cell? ⟨g, off + k, none⟩ = some (.int .i32 x0)) := by
    intro off ho k hk
    rcases ho.out with h1 | h1
    · subst h1
      have h2 := (HS.out.get (1 + k) (by omega))
      rw [HSM.out (1 + k) (by omega)] at h2
      show _ = _
      exact (World.cell?_of_block (a := ⟨g, 1 + k, none⟩) (Below.heap_alloc _ _ _ a2)).trans h2
    · omega
  have hc1 : cap = 1 ∨ ¬ cap = 1 := by omega
  rcases hc1 with hc1 | hc1
  case' inl => have hoff : Hid ((0 : Nat) = 1 ∨ c.smp.length = 1) := by show _ ∨ _; omega
  case' inr => have hoff : Hid ((1 : Nat) = 1 ∨ c.smp.length = 1) := Lib.hid (Or.inl rfl)
  all_goals
    have HJ := HI _ hoff
    clear HI
    go_wp2_with fail
    go_loopw [24] (fun j wx => wx = w.alloc (.cells #[f0, f1, f2, f3, f4, f5] 69) ∧ ∃ k : Nat, k + 1 ≤ c.smp.length ∧ j = .int .i64 k) (fun j _ => c.smp.length - (intOf j).toNat)
    case atStart => exact ⟨rfl, 0, by omega, rfl⟩
    case round =>
      obtain ⟨rfl, k, hk, rfl⟩ := hrel
      by_cases hkn : k + 1 < c.smp.length
      · have hcell := (HJ k hkn).out
        go_wp2_with fail
        all_goals
          go_roundw
          case rel => exact ⟨trivial, k + 1, by omega, by go_num⟩
          case measure => simp [intOf]; omega
      · obtain rfl : k = c.smp.length - 1 := by omega
        have hw1 : Hid (bitsN (IntKind.u64.wrap x0) bps = bitsN x0 bps) := by
          show _ = _
          rw [IntKind.wrap_u64]; exact bitsN_mod64 _ _ hb
        have hw0 : Hid (0 ≤ IntKind.u64.wrap x0 ∧ IntKind.u64.wrap x0 < 18446744073709551616) := by
          show _ ∧ _
          rw [IntKind.wrap_u64]; omega
        go_wp2_with fail
        refine (wbits σ W _ bps _ _ H2.out hw0.out.1 hw0.out.2 (by omega) (by omega) (by have := HL.out; omega)).mono ?_
        rintro e w1 ⟨rfl, hb1, hf1⟩
        rw [Int.toNat_natCast, hw1.out] at hb1
        have HB := Lib.hid hb1
        have HG := Lib.hid hf1
        clear hb1 hf1
        go_wp2_with fail
        go_ret
        exact ⟨rfl, HB.out, (HF.out.mono (Nat.le_refl _) (by simp)).trans HG.out⟩

/-- Numbers as they stand. -/
def verbB (l : List Int) (bps : Nat) : List Bool := l.flatMap fun v => bitsN v bps
theorem verbB_length (l : List Int) (bps : Nat) : (verbB l bps).length = l.length * bps := by
  induction l with
  | nil => simp [verbB]
  | cons x l ih =>
    have e : verbB (x :: l) bps = bitsN x bps ++ verbB l bps := rfl
    rw [e, List.length_append, bitsN_length, ih, List.length_cons, Nat.add_mul]
    omega
theorem verbB_take (l : List Int) (bps k : Nat) (h : k < l.length) : verbB (l.take (k + 1)) bps = verbB (l.take k) bps ++ bitsN (l.getD k 0) bps := by
  rw [List.take_add_one, verbB, List.flatMap_append]
  rw [List.getD_eq_getElem?_getD, List.getElem?_eq_getElem h]
  simp [verbB]

set_option maxRecDepth 100000 in
set_option maxHeartbeats 4000000 in
/-- encodeVerbatimSamples. -/
theorem encVerb {B : Nat} (σ : Snk B) (W : Nat) (c : PSub) (a R P g cap pcap : Nat) (v4 v5 v6 : Value) (bps : Nat) (s : List UInt8 × List Bool) (w : World) (h : BW σ W s w)
    (hs : SubAt c a R P g cap pcap v4 v5 v6 w) (hL : ∀ k ∈ [a, R, P, g], k ∉ W :: σ.S) (hn : 1 ≤ c.smp.length) (hn2 : c.smp.length ≤ 65535)
    (hb : bps ≤ 64) (hl : cnt s + c.smp.length * bps ≤ 70368744177664) (f0 f2 f3 f4 f5 : Value) :
    Calls Tryz.prog 76 #[.pointer (some ⟨W, 0, none⟩), .agg #[f0, .int .u16 c.smp.length, f2, f3, f4, f5], .pointer (some ⟨a, 0, none⟩), .int .u64 bps] w (Wrote σ W s (verbB c.smp bps) w) := by
  have HL := Lib.hid hl; clear hl
  have H := Lib.hid h; clear h
  have a1 := Lib.lt_of_heap hs.sub
  go_enter Tryz.func76, Tryz.ntmps76
  have c1 := Lib.cell_of_heap hs.sub 8
  simp only [List.getElem?_toArray, List.getElem?_cons_zero, List.getElem?_cons_succ] at c1
  have hle := hs.le
  have HO := Lib.hid hL; clear hL
  have HF := Kp.fr (S := []) (Kp.alloc [] w (.cells #[f0, .int .u16 c.smp.length, f2, f3, f4, f5] 69)) H.out.baseLe (by simp)
  have HS := Lib.hid (hs.fr HF (by simp)); clear hs
  replace HF := Lib.hid HF
  have H2 := Lib.hid (H.out.alloc (.cells #[f0, .int .u16 c.smp.length, f2, f3, f4, f5] 69))
  go_wp2_with fail
  go_loopw [26] (fun j wx => ∃ k : Nat, k ≤ c.smp.length ∧ j = .int .i64 k ∧ BW σ W (wrB s (verbB (c.smp.take k) bps)) wx ∧ Fr B (W :: σ.S) w wx ∧ SubAt c a R P g cap pcap v4 v5 v6 wx) (fun j _ => c.smp.length - (intOf j).toNat)
  case atStart => exact ⟨0, by omega, rfl, H2.out, HF.out.mono (Nat.le_refl _) (by simp), HS.out⟩
  case round =>
    clear H2 HF HS
    obtain ⟨k, hk, rfl, hbw, hfr, hsa⟩ := hrel
    have HBW := Lib.hid hbw; clear hbw
    have HFR := Lib.hid hfr; clear hfr
    have HSA := Lib.hid hsa; clear hsa
    by_cases hkn : k < c.smp.length
    · have hcell := HSA.out.get k hkn
      have HT := Lib.hid (verbB_take c.smp bps k hkn)
      have HN : Hid (cnt (wrB s (verbB (c.smp.take k) bps)) + bps ≤ 70368744177664) := by
        have h1 := HL.out
        have h2 : (k + 1) * bps ≤ c.smp.length * bps := Nat.mul_le_mul_right _ hkn
        rw [Nat.add_mul] at h2
        show _ ≤ _
        rw [cnt_wrB, verbB_length, List.length_take_of_le (by omega)]
        omega
      generalize c.smp.getD k 0 = x at hcell HT
      have hw1 : Hid (bitsN (IntKind.u64.wrap x) bps = bitsN x bps) := by
        show _ = _
        rw [IntKind.wrap_u64]; exact bitsN_mod64 _ _ hb
      have hw0 : Hid (0 ≤ IntKind.u64.wrap x ∧ IntKind.u64.wrap x < 18446744073709551616) := by
        show _ ∧ _
        rw [IntKind.wrap_u64]; omega
      go_wp2_with fail
      refine (wbits σ W _ bps _ _ HBW.out hw0.out.1 hw0.out.2 (by omega) (by omega) (by have := HN.out; omega)).mono ?_
      rintro e w1 ⟨rfl, hb1, hf1⟩
      rw [Int.toNat_natCast, hw1.out, ← wrB_append, ← HT.out] at hb1
      have HB := Lib.hid hb1
      have HG := Lib.hid hf1
      clear hb1 hf1
      go_wp2_with fail
      go_roundw
      case rel => exact ⟨k + 1, by omega, by go_num, HB.out, HFR.out.trans HG.out, HSA.out.fr HG.out HO.out⟩
      case measure => simp [intOf]; omega
    · obtain rfl : k = c.smp.length := by omega
      go_wp2_with fail
      go_ret
      have := HBW.out
      rw [List.take_length] at this
      exact ⟨rfl, this, HFR.out⟩
end Go.Proofs.YtemcpcgcnjahjaaGreatDoor
