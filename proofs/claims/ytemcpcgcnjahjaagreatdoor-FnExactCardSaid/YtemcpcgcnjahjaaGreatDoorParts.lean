/-
  A rest, and rests in parts.
-/
import Derived.Test.YtemcpcgcnjahjaaGreatDoorSub
namespace Go.Proofs.YtemcpcgcnjahjaaGreatDoor
open Go.RowKit

theorem rest_lo (F p : Nat) (hp : p ≤ 14) (hF : F < 2147483648) : bits .and .u32 (F : Int) (4294967295 / 2 ^ (32 - p)) = ((F % 2 ^ p : Nat) : Int) := by
  have hm : (4294967295 : Int) / 2 ^ (32 - p) = ((2 ^ p - 1 : Nat) : Int) := by
    rcases (by omega : p = 0 ∨ p = 1 ∨ p = 2 ∨ p = 3 ∨ p = 4 ∨ p = 5 ∨ p = 6 ∨ p = 7 ∨ p = 8 ∨ p = 9 ∨ p = 10 ∨ p = 11 ∨ p = 12 ∨ p = 13 ∨ p = 14) with rfl | rfl | rfl | rfl | rfl | rfl | rfl | rfl | rfl | rfl | rfl | rfl | rfl | rfl | rfl <;> decide
  have h2 : 2 ^ p ≤ 2 ^ 14 := Nat.pow_le_pow_right (by decide) hp
  rw [hm, u32_and_nat F (2 ^ p - 1) (by omega) (by omega), Nat.and_two_pow_sub_one_eq_mod]
theorem rest_hi (F p : Nat) (hp : p ≤ 14) (hF : F < 2147483648) : bits .and .u32 (F : Int) (4294967295 * 2 ^ p % 4294967296) / 2 ^ p = ((F / 2 ^ p : Nat) : Int) := by
  have hm : (4294967295 * 2 ^ p % 4294967296 : Int) = ((4294967296 - 2 ^ p : Nat) : Int) := by
    rcases (by omega : p = 0 ∨ p = 1 ∨ p = 2 ∨ p = 3 ∨ p = 4 ∨ p = 5 ∨ p = 6 ∨ p = 7 ∨ p = 8 ∨ p = 9 ∨ p = 10 ∨ p = 11 ∨ p = 12 ∨ p = 13 ∨ p = 14) with rfl | rfl | rfl | rfl | rfl | rfl | rfl | rfl | rfl | rfl | rfl | rfl | rfl | rfl | rfl <;> decide
  have hd : (4294967296 - 2 ^ p) / 2 ^ p = 2 ^ (32 - p) - 1 := by
    rcases (by omega : p = 0 ∨ p = 1 ∨ p = 2 ∨ p = 3 ∨ p = 4 ∨ p = 5 ∨ p = 6 ∨ p = 7 ∨ p = 8 ∨ p = 9 ∨ p = 10 ∨ p = 11 ∨ p = 12 ∨ p = 13 ∨ p = 14) with rfl | rfl | rfl | rfl | rfl | rfl | rfl | rfl | rfl | rfl | rfl | rfl | rfl | rfl | rfl <;> decide
  have h2 : 2 ^ p ≤ 2 ^ 14 := Nat.pow_le_pow_right (by decide) hp
  have h3 : 2 ^ 18 ≤ 2 ^ (32 - p) := Nat.pow_le_pow_right (by decide) (by omega)
  have h0 : 0 < 2 ^ p := Nat.two_pow_pos p
  have h4 : F / 2 ^ p < 2 ^ (32 - p) := by
    rw [Nat.div_lt_iff_lt_mul h0, ← Nat.pow_add, show 32 - p + p = 32 by omega]; omega
  rw [hm, u32_and_nat F (4294967296 - 2 ^ p) (by omega) (by omega)]
  have e : ((F &&& (4294967296 - 2 ^ p) : Nat) : Int) / 2 ^ p = (((F &&& (4294967296 - 2 ^ p)) / 2 ^ p : Nat) : Int) := by
    rw [Int.natCast_ediv, Int.natCast_pow]; rfl
  rw [e, Nat.and_div_two_pow, hd, Nat.and_two_pow_sub_one_eq_mod, Nat.mod_eq_of_lt h4]

set_option maxRecDepth 100000 in
set_option maxHeartbeats 4000000 in
/-- encodeRiceResidual. -/
theorem encRest {B : Nat} (σ : Snk B) (W : Nat) (p : Nat) (x : Int) (s : List UInt8 × List Bool) (w : World) (h : BW σ W s w) (hp : p ≤ 14) (hx : -1073741824 ≤ x) (hx2 : x < 1073741824)
    (hl : cnt s + (foldI x / 2 ^ p).toNat + 1 + p ≤ 70368744177664) :
    Calls Tryz.prog 118 #[.pointer (some ⟨W, 0, none⟩), .int .u64 p, .int .i32 x] w (Wrote σ W s (unaryB (foldI x / 2 ^ p).toNat ++ bitsN (foldI x) p) w) := by
  have HL := Lib.hid hl; clear hl
  have H := Lib.hid h; clear h
  have hf0 := foldI_nonneg x
  have hf1 := foldI_lt x 1073741824 hx hx2
  go_enter Tryz.func118, Tryz.ntmps118
  go_wp2_with fail
  refine (zigzag x w hx hx2).mono ?_
  rintro e w' ⟨rfl, rfl⟩
  go_wp2_with fail
  have hlo : Hid (bits .and .u32 (foldI x) (4294967295 / 2 ^ (32 - p)) = ((foldI x).toNat % 2 ^ p : Nat)) := by
    have := rest_lo (foldI x).toNat p hp (by omega)
    rw [Int.toNat_of_nonneg hf0] at this
    exact this
  have hhi : Hid (bits .and .u32 (foldI x) (4294967295 * 2 ^ p % 4294967296) / 2 ^ p = ((foldI x).toNat / 2 ^ p : Nat)) := by
    have := rest_hi (foldI x).toNat p hp (by omega)
    rw [Int.toNat_of_nonneg hf0] at this
    exact this
  have hle : (foldI x).toNat / 2 ^ p ≤ (foldI x).toNat := Nat.div_le_self _ _
  have hle2 : (foldI x).toNat % 2 ^ p ≤ (foldI x).toNat := Nat.mod_le _ _
  have hq : Hid ((foldI x / 2 ^ p).toNat = (foldI x).toNat / 2 ^ p) := by
    show _ = _
    rw [← Int.toNat_of_nonneg hf0]
    generalize (foldI x).toNat = f
    have : ((f : Int) / 2 ^ p) = ((f / 2 ^ p : Nat) : Int) := by rw [Int.natCast_ediv, Int.natCast_pow]; rfl
    rw [this, Int.toNat_natCast, Int.toNat_natCast]
  have hbl : Hid (bitsN ((foldI x).toNat % 2 ^ p : Nat) p = bitsN (foldI x) p) := by
    show _ = _
    have e : (((foldI x).toNat % 2 ^ p : Nat) : Int) = foldI x % 2 ^ p := by
      rw [Int.natCast_emod, Int.natCast_pow, Int.toNat_of_nonneg hf0]; rfl
    rw [e]; exact bitsN_mod _ _ _ (Nat.le_refl _)
  rw [hhi.out, hlo.out]
  rw [hq.out] at HL ⊢
  generalize hqe : (foldI x).toNat / 2 ^ p = q at hle HL ⊢
  have HQ := Lib.hid hqe
  clear hqe
  generalize (foldI x).toNat % 2 ^ p = r at hle2 hbl ⊢
  have hw : IntKind.u64.wrap (q : Int) = q := by rw [IntKind.wrap_u64]; omega
  have hwr : IntKind.u64.wrap (r : Int) = r := by rw [IntKind.wrap_u64]; omega
  rw [hw]
  refine (wunary σ W q s _ H.out (by omega) (by omega) (by have := HL.out; rw [Int.toNat_natCast]; omega)).mono ?_
  rintro e w1 ⟨rfl, hb1, hf1⟩
  rw [Int.toNat_natCast] at hb1
  have HB := Lib.hid hb1
  have HF := Lib.hid hf1
  clear hb1 hf1
  go_wp2_with fail
  refine (wbits σ W r p _ _ HB.out (by omega) (by omega) (by omega) (by omega) (by have := HL.out; rw [cnt_wrB]; simp [unaryB]; omega)).mono ?_
  rintro e w2 ⟨rfl, hb1, hf1⟩
  rw [Int.toNat_natCast, hbl.out, ← wrB_append] at hb1
  have HB2 := Lib.hid hb1
  have HF2 := Lib.hid hf1
  clear hb1 hf1
  go_wp2_with fail
  go_ret
  exact ⟨rfl, by rw [hq.out, HQ.out]; exact HB2.out, HF.out.trans HF2.out⟩

/-- Numbers of 32 bits as they lie. -/
def I32At (g : Nat) (xs : List Int) (w : World) : Prop := ∃ sc : Array Value, w.heap[g]? = some (.cells sc 21 (0, 0)) ∧ ∀ (j : Nat) (x : Int), xs[j]? = some x → sc[j]? = some (.int .i32 x)
theorem I32At.fr {g : Nat} {xs : List Int} {w w' : World} {B : Nat} {S : List Nat} (h : I32At g xs w) (f : Fr B S w w') (hg : g ∉ S) : I32At g xs w' := by
  obtain ⟨sc, hG, hx⟩ := h
  exact ⟨sc, f.at hG hg (by decide), hx⟩
theorem I32At.get {g : Nat} {xs : List Int} {w : World} (h : I32At g xs w) (j : Nat) (hj : j < xs.length) : w.cell? ⟨g, j, none⟩ = some (.int .i32 (xs.getD j 0)) := by
  obtain ⟨sc, hG, hg⟩ := h
  rw [Lib.cell_of_heap hG]
  refine hg j _ ?_
  rw [List.getD_eq_getElem?_getD, List.getElem?_eq_getElem hj]
  rfl

/-- A rest by a number; rests by it; the parts. -/
def restB (p : Nat) (x : Int) : List Bool := unaryB (foldI x / 2 ^ p).toNat ++ bitsN (foldI x) p
def runB (p : Nat) (l : List Int) : List Bool := l.flatMap (restB p)
def partOff (n o k : Nat) : Nat := if k = 0 then 0 else k * n - o
def partLen (n o k : Nat) : Nat := if k = 0 then n - o else n
def partB (n o : Nat) (rs : List Int) (k p : Nat) : List Bool := bitsN p 4 ++ runB p ((rs.drop (partOff n o k)).take (partLen n o k))
def partsB (n o : Nat) (rs : List Int) (ps : List Nat) (m : Nat) : List Bool := (List.range m).flatMap fun k => partB n o rs k (ps.getD k 0)

theorem runB_take (p : Nat) (l : List Int) (k : Nat) (h : k < l.length) : runB p (l.take (k + 1)) = runB p (l.take k) ++ restB p (l.getD k 0) := by
  rw [List.take_add_one, runB, List.flatMap_append]
  rw [List.getD_eq_getElem?_getD, List.getElem?_eq_getElem h]
  simp [runB]
theorem partsB_succ (n o : Nat) (rs : List Int) (ps : List Nat) (m : Nat) : partsB n o rs ps (m + 1) = partsB n o rs ps m ++ partB n o rs m (ps.getD m 0) := by
  unfold partsB
  rw [List.range_succ, List.flatMap_append]
  simp
theorem restB_length (p : Nat) (x : Int) : (restB p x).length = (foldI x / 2 ^ p).toNat + 1 + p := by
  simp [restB, unaryB, bitsN_length]; omega

theorem partOff_succ (n o k : Nat) (h : o ≤ n) : partOff n o (k + 1) = partOff n o k + partLen n o k := by
  unfold partOff partLen
  by_cases hk : k = 0
  · subst hk; simp
  · simp only [hk, if_false, Nat.add_eq_zero_iff, false_and]
    have h1 : n ≤ k * n := Nat.le_mul_of_pos_left n (by omega)
    rw [Nat.add_mul]; omega

theorem Kp.drewN (S : List Nat) (w : World) (n : Nat) : Kp S w (w.drewN n) := ⟨rfl, rfl, rfl, Nat.le_refl _, fun _ _ _ => rfl⟩
theorem BW.drewN {B : Nat} {σ : Snk B} {W : Nat} {s : List UInt8 × List Bool} {w : World} (h : BW σ W s w) (n : Nat) : BW σ W s (w.drewN n) := h.kp (Kp.drewN [] w n) (by simp)
theorem Fr.drewN {B : Nat} {S : List Nat} {w w' : World} (h : Fr B S w w') (n : Nat) : Fr B S w (w'.drewN n) := ⟨h.os, h.tape, h.output, h.size, h.below, h.block⟩
theorem SubAt.drewN {s : PSub} {a R P g cap pcap : Nat} {v4 v5 v6 : Value} {w : World} (h : SubAt s a R P g cap pcap v4 v5 v6 w) (n : Nat) : SubAt s a R P g cap pcap v4 v5 v6 (w.drewN n) := h.fr ((Fr.refl 0 [] w).drewN n) (by simp)
theorem I32At.drewN {g : Nat} {xs : List Int} {w : World} (h : I32At g xs w) (n : Nat) : I32At g xs (w.drewN n) := h.fr ((Fr.refl 0 [] w).drewN n) (by simp)

/-- What is known of rests and the numbers of their parts. -/
structure RestsOk (rs : List Int) (ps : List Nat) : Prop where
  small : ∀ x ∈ rs, -1073741824 ≤ x ∧ x < 1073741824
  par : ∀ p ∈ ps, p ≤ 14
  few : ∀ p ∈ ps, ∀ x ∈ rs, (foldI x / 2 ^ p).toNat ≤ 100000

theorem SubAt.par {s : PSub} {a R P g cap pcap : Nat} {v4 v5 v6 : Value} {w : World} (h : SubAt s a R P g cap pcap v4 v5 v6 w) (j : Nat) (hj : j < s.pars.length) : w.cell? ⟨P, j * 2, none⟩ = some (.int .u64 (s.pars.getD j 0 : Nat)) := by
  rw [Nat.mul_comm]
  obtain ⟨sc, hG, hg⟩ := h.pars
  rw [Lib.cell_of_heap hG]
  refine hg j _ ?_
  rw [List.getD_eq_getElem?_getD, List.getElem?_eq_getElem hj]
  rfl

set_option maxRecDepth 100000 in
set_option maxHeartbeats 4000000 in
/-- encodeRicePart. -/
theorem encParts {B : Nat} (σ : Snk B) (W : Nat) (c : PSub) (a R P g cap pcap rg rcap n : Nat) (v4 v5 v6 : Value) (rs : List Int) (s : List UInt8 × List Bool) (w : World) (h : BW σ W s w)
    (hs : SubAt c a R P g cap pcap v4 v5 v6 w) (hL : ∀ k ∈ [a, R, P, g], k ∉ W :: σ.S) (hr : I32At rg rs w) (hrg : rg ∉ W :: σ.S)
    (hn : n * 2 ^ c.parts = c.smp.length) (hpl : c.pars.length = 2 ^ c.parts) (hp2 : c.parts ≤ 2) (ho : c.ord ≤ n) (hrl : rs.length + c.ord = c.smp.length) (hsz : c.smp.length ≤ 65535) (hok : RestsOk rs c.pars)
    (hl : cnt s + 10000000000 ≤ 70368744177664) :
    Calls Tryz.prog 113 #[.pointer (some ⟨W, 0, none⟩), .pointer (some ⟨a, 0, none⟩), .int .u64 4, .slice (some ⟨rg, 0, none⟩) rs.length rcap] w (Wrote σ W s (bitsN c.parts 4 ++ partsB n c.ord rs c.pars c.pars.length) w) := by
  have HL := Lib.hid hl; clear hl
  have H := Lib.hid h; clear h
  have HO := Lib.hid hL; clear hL
  have HRG := Lib.hid hrg; clear hrg
  have HOK := Lib.hid hok; clear hok
  have HPL := Lib.hid hpl; clear hpl
  have HNN := Lib.hid hn; clear hn
  have HRL := Lib.hid hrl; clear hrl
  have c1 := Lib.cell_of_heap hs.sub 7
  simp only [List.getElem?_toArray, List.getElem?_cons_zero, List.getElem?_cons_succ] at c1
  have c2 := Lib.cell_of_heap hs.rice 0
  simp only [List.getElem?_toArray, List.getElem?_cons_zero] at c2
  have HS := Lib.hid hs; clear hs
  have HR := Lib.hid hr; clear hr
  go_enter Tryz.func113, Tryz.ntmps113
  have hw : IntKind.u64.wrap (c.parts : Int) = c.parts := by rw [IntKind.wrap_u64]; omega
  go_wp2_with fail
  refine (wbits σ W c.parts 4 s _ H.out (by omega) (by omega) (by omega) (by omega) (by have := HL.out; omega)).mono ?_
  rintro e w1 ⟨rfl, hb1, hf1⟩
  have HB := Lib.hid hb1
  have HF := Lib.hid hf1
  clear hb1 hf1 c1 c2
  have HS1 := Lib.hid (HS.out.fr HF.out HO.out)
  have HR1 := Lib.hid (HR.out.fr HF.out HRG.out)
  clear HS HR
  have c1 := Lib.cell_of_heap HS1.out.sub 7
  simp only [List.getElem?_toArray, List.getElem?_cons_zero, List.getElem?_cons_succ] at c1
  have c2 := Lib.cell_of_heap HS1.out.rice 0
  have c3 := Lib.cell_of_heap HS1.out.rice 1
  simp only [List.getElem?_toArray, List.getElem?_cons_zero, List.getElem?_cons_succ] at c2 c3
  go_wp2_with fail
  have hnp : wrap64 (2 ^ c.parts) = ((2 ^ c.parts : Nat) : Int) := by
    rcases (by omega : c.parts = 0 ∨ c.parts = 1 ∨ c.parts = 2) with e | e | e <;> rw [e] <;> simp [wrap64]
  rw [hnp]
  clear hnp c1 c2 c3
  have hq0 := Nat.two_pow_pos c.parts
  have HQZ : Hid (c.parts = 0 → 2 ^ c.parts = 1) := Lib.hid (fun e => by rw [e])
  have HQ4 : Hid (2 ^ c.parts ≤ 4) := Lib.hid (Nat.pow_le_pow_right (i := c.parts) (j := 2) (by decide) hp2)
  generalize 2 ^ c.parts = q at HQ4 HQZ hq0 HPL HNN ⊢
  have hq1 : ¬ (q = 0) := by omega
  have hd : wrap64 ((c.smp.length : Int) / (q : Int)) = (n : Int) := by
    rw [← HNN.out, Int.natCast_mul, Int.mul_ediv_cancel _ (by omega)]
    have : n ≤ n * q := Nat.le_mul_of_pos_right n hq0
    have := HNN.out
    unfold wrap64; omega
  go_loopw [13, 52] (fun cu jx wx => ∃ k : Nat, k ≤ c.pars.length ∧ jx = .int .i64 k ∧ cu = .int .i64 (partOff n c.ord k : Nat) ∧ BW σ W (wrB s (bitsN c.parts 4 ++ partsB n c.ord rs c.pars k)) wx ∧ Fr B (W :: σ.S) w wx ∧ SubAt c a R P g cap pcap v4 v5 v6 wx ∧ I32At rg rs wx ∧
    cnt (wrB s (bitsN c.parts 4 ++ partsB n c.ord rs c.pars k)) ≤ cnt s + 4 + 4 * k + 100016 * partOff n c.ord k) (fun _ jx _ => c.pars.length - (intOf jx).toNat)
  case atStart => exact ⟨0, by omega, rfl, rfl, by simpa [partsB] using HB.out, HF.out, HS1.out, HR1.out, by simp [partsB, partOff, cnt_wrB, bitsN_length]⟩
  case round =>
    clear HB HF HS1 HR1
    obtain ⟨k, hk, rfl, rfl, hbw, hfr, hsa, hra, hcn⟩ := hrel
    have HBW := Lib.hid hbw; clear hbw
    have HFR := Lib.hid hfr; clear hfr
    have HSA := Lib.hid hsa; clear hsa
    have HRA := Lib.hid hra; clear hra
    have HCN := Lib.hid hcn; clear hcn
    have c1 := Lib.cell_of_heap HSA.out.rice 1
    simp only [List.getElem?_toArray, List.getElem?_cons_zero, List.getElem?_cons_succ] at c1
    by_cases hkn : k < c.pars.length
    · have hcell := HSA.out.par k hkn
      have HT := Lib.hid (partsB_succ n c.ord rs c.pars k)
      have hpm := HOK.out.par _ (List.getElem_mem hkn)
      generalize hpe : c.pars.getD k 0 = p at hcell HT
      have hp14 : p ≤ 14 := by rw [← hpe, List.getD_eq_getElem?_getD, List.getElem?_eq_getElem hkn]; exact hpm
      have HPE := Lib.hid hpe
      clear hpe hpm
      go_wp2_with fail
      have HOff : Hid (partOff n c.ord k + partLen n c.ord k ≤ rs.length) := by
        show _ ≤ _
        rw [← partOff_succ n c.ord k ho]
        have h1 := HPL.out
        have h2 := HRL.out
        rw [← HNN.out] at h2
        have h3 : (k + 1) * n ≤ q * n := Nat.mul_le_mul_right _ (by omega)
        rw [Nat.mul_comm n q] at h2
        simp only [partOff, Nat.add_eq_zero_iff, if_false, show ¬ (1 : Nat) = 0 by decide, and_false]
        omega
      have HK65 : Hid (k ≤ 4 ∧ rs.length ≤ 65535) := by
        have h1 := HPL.out
        have h2 := HRL.out
        have h3 : c.pars.length ≤ 4 := by
          have h4 := HQ4.out
          omega
        exact ⟨by omega, by omega⟩
      have HC4 : Hid (cnt (wrB s (bitsN c.parts 4 ++ partsB n c.ord rs c.pars k)) + 4 ≤ 70368744177664) := by
        have h1 := HCN.out
        have h2 := HL.out
        have h3 := HK65.out
        have h4 := HOff.out
        show _ ≤ _; omega
      refine (wbits σ W p 4 _ _ HBW.out (by omega) (by omega) (by omega) (by omega) HC4.out).mono ?_
      rintro e w2 ⟨rfl, hb1, hf1⟩
      rw [show (4 : Int).toNat = 4 from rfl] at hb1
      have HCN2 : Hid (cnt (wrB (wrB s (bitsN c.parts 4 ++ partsB n c.ord rs c.pars k)) (bitsN p 4)) ≤ cnt s + 4 + 4 * (k + 1) + 100016 * partOff n c.ord k) := by
        have h1 := HCN.out
        show _ ≤ _
        rw [cnt_wrB _ (bitsN p 4), bitsN_length]; omega
      have HTE : Hid (wrB (wrB (wrB s (bitsN c.parts 4 ++ partsB n c.ord rs c.pars k)) (bitsN p 4)) (runB p ((rs.drop (partOff n c.ord k)).take (partLen n c.ord k))) = wrB s (bitsN c.parts 4 ++ partsB n c.ord rs c.pars (k + 1))) := by
        show _ = _
        rw [HT.out, ← wrB_append, ← wrB_append]
        unfold partB
        simp only [List.append_assoc]
      have HB := Lib.hid hb1
      have HF := Lib.hid (HFR.out.trans hf1)
      have HS2 := Lib.hid (HSA.out.fr hf1 HO.out)
      have HR2 := Lib.hid (HRA.out.fr hf1 HRG.out)
      generalize wrB (wrB s (bitsN c.parts 4 ++ partsB n c.ord rs c.pars k)) (bitsN p 4) = st at HCN2 HTE HB
      clear hb1 hf1 c1 hcell
      have c1 := Lib.cell_of_heap HS2.out.sub 1
      have c2 := Lib.cell_of_heap HS2.out.sub 9
      simp only [List.getElem?_toArray, List.getElem?_cons_zero, List.getElem?_cons_succ] at c1 c2
      have hp15 : ((p : Int) == 15) = false := by simp; omega
      have hpl := HPL.out
      have hnn := HNN.out
      have hcase : (((c.parts : Int) == 0) = true ∧ k = 0 ∧ n = c.smp.length) ∨ (((c.parts : Int) == 0) = false ∧ ((k : Int) != 0) = true ∧ partLen n c.ord k = n) ∨ (((c.parts : Int) == 0) = false ∧ k = 0 ∧ partLen n c.ord k = n - c.ord) := by
        by_cases hp : c.parts = 0
        · rw [HQZ.out hp] at hpl hnn
          refine .inl ⟨by simp [hp], by omega, by omega⟩
        · by_cases hk0 : k = 0
          · exact .inr (.inr ⟨by simpa using hp, hk0, by simp [partLen, hk0]⟩)
          · exact .inr (.inl ⟨by simpa using hp, by simpa using hk0, by simp [partLen, hk0]⟩)
      clear hpl hnn
      have hWL : wrap64 ((partLen n c.ord k : Nat) : Int) = (partLen n c.ord k : Nat) := by
        have h1 := HK65.out
        have h2 := HOff.out
        unfold wrap64; omega
      rcases hcase with ⟨hz, hk0, hq⟩ | ⟨hz, hk0, hq⟩ | ⟨hz, hk0, hq⟩
      case' inl =>
        have hX : ((c.smp.length : Int) - (c.ord : Int)) = (partLen n c.ord k : Nat) := by
          simp only [hk0, partLen, if_true]; omega
        clear hq hk0
        go_wp2_with fail
        go_quiet (fail)
        go_wp2_with fail
      case' inr.inl =>
        have hX : (n : Int) = (partLen n c.ord k : Nat) := by rw [hq]
        have HX := Lib.hid hX
        clear hq hX
        go_wp2_with fail
        rw [hd, HX.out]
      case' inr.inr =>
        have hX : ((n : Int) - (c.ord : Int)) = (partLen n c.ord k : Nat) := by rw [hq]; omega
        clear hq
        have hkz : ((k : Int) != 0) = false := by simp [hk0]
        clear hk0
        go_wp2_with fail
        go_quiet (fail)
        go_wp2_with fail
        rw [hWL]
      all_goals
        clear c1 c2 hz hd hWL
        try clear hX
        go_loopw [13, 23] (fun cu jx wx => ∃ j : Nat, j ≤ partLen n c.ord k ∧ jx = .int .i64 j ∧ cu = .int .i64 (partOff n c.ord k + j : Nat) ∧ BW σ W (wrB st (runB p (((rs.drop (partOff n c.ord k)).take (partLen n c.ord k)).take j))) wx ∧ Fr B (W :: σ.S) w wx ∧ SubAt c a R P g cap pcap v4 v5 v6 wx ∧ I32At rg rs wx ∧
          cnt (wrB st (runB p (((rs.drop (partOff n c.ord k)).take (partLen n c.ord k)).take j))) ≤ cnt s + 4 + 4 * (k + 1) + 100016 * (partOff n c.ord k + j)) (fun _ jx _ => partLen n c.ord k - (intOf jx).toNat)
        case atStart =>
          refine ⟨0, by omega, rfl, rfl, ?_⟩
          rw [List.take_zero]
          first
            | exact ⟨HB.out, HF.out, HS2.out, HR2.out, HCN2.out⟩
            | exact ⟨HB.out.drewN _, HF.out.drewN _, HS2.out.drewN _, HR2.out.drewN _, HCN2.out⟩
        case round =>
          clear HB HF HS2 HR2 HBW HFR HSA HRA HCN HC4 HCN2
          obtain ⟨j, hj, rfl, rfl, hbw, hfr, hsa, hra, hcn⟩ := hrel
          have HBW := Lib.hid hbw; clear hbw
          have HFR := Lib.hid hfr; clear hfr
          have HSA := Lib.hid hsa; clear hsa
          have HRA := Lib.hid hra; clear hra
          have HCN := Lib.hid hcn; clear hcn
          by_cases hjn : j < partLen n c.ord k
          · have hof := HOff.out
            have hk65 := HK65.out.2
            have hcell := HRA.out.get (partOff n c.ord k + j) (by omega)
            have HT2 : Hid (runB p (((rs.drop (partOff n c.ord k)).take (partLen n c.ord k)).take (j + 1)) = runB p (((rs.drop (partOff n c.ord k)).take (partLen n c.ord k)).take j) ++ restB p (rs.getD (partOff n c.ord k + j) 0)) := by
              show _ = _
              rw [runB_take _ _ _ (by rw [List.length_take_of_le (by rw [List.length_drop]; omega)]; exact hjn)]
              congr 2
              simp [List.getD_eq_getElem?_getD, hjn, List.getElem?_drop]
            have hmem : rs.getD (partOff n c.ord k + j) 0 ∈ rs := by
              rw [List.getD_eq_getElem?_getD, List.getElem?_eq_getElem (by omega)]
              exact List.getElem_mem _
            have hpmem : p ∈ c.pars := by
              rw [← HPE.out, List.getD_eq_getElem?_getD, List.getElem?_eq_getElem hkn]
              exact List.getElem_mem _
            have hsm := HOK.out.small _ hmem
            have hfw := HOK.out.few _ hpmem _ hmem
            clear hmem hpmem
            generalize rs.getD (partOff n c.ord k + j) 0 = x at hcell HT2 hsm hfw
            have HFW := Lib.hid hfw
            clear hfw
            go_wp2_with fail
            refine (encRest σ W p x _ _ HBW.out (by omega) (by omega) (by omega) (by have h1 := HCN.out; have h2 := HFW.out; have h3 := HL.out; have h4 := HK65.out.1; omega)).mono ?_
            rintro e w3 ⟨rfl, hb1, hf1⟩
            change BW σ W (wrB _ (restB p x)) w3 at hb1
            rw [← wrB_append, ← HT2.out] at hb1
            have HB := Lib.hid hb1
            have HG := Lib.hid hf1
            clear hb1 hf1
            go_wp2_with fail
            go_roundw
            case rel =>
              refine ⟨j + 1, by omega, by go_num, by go_num, HB.out, HFR.out.trans HG.out, HSA.out.fr HG.out HO.out, HRA.out.fr HG.out HRG.out, ?_⟩
              have h1 := HCN.out
              have h2 := HFW.out
              rw [HT2.out, wrB_append, cnt_wrB, restB_length]
              omega
            case measure => simp [intOf]; omega
          · obtain rfl : j = partLen n c.ord k := by omega
            have hB := HBW.out
            rw [List.take_of_length_le (Nat.le_of_eq (by rw [List.length_take_of_le (by rw [List.length_drop]; have := HOff.out; omega)])), HTE.out] at hB
            have hC := HCN.out
            rw [List.take_of_length_le (Nat.le_of_eq (by rw [List.length_take_of_le (by rw [List.length_drop]; have := HOff.out; omega)])), HTE.out] at hC
            rw [← partOff_succ n c.ord k ho] at hC
            have HB := Lib.hid hB
            have HC := Lib.hid hC
            have HPS := Lib.hid (partOff_succ n c.ord k ho)
            clear hB hC
            have hk4 := HK65.out.1
            go_wp2_with fail
            go_roundw
            case rel => exact ⟨k + 1, by omega, by go_num, by rw [HPS.out], HB.out, HFR.out, HSA.out, HRA.out, HC.out⟩
            case measure => simp [intOf]; omega
    · obtain rfl : k = c.pars.length := by omega
      go_wp2_with fail
      go_ret
      exact ⟨rfl, HBW.out, HFR.out⟩
end Go.Proofs.YtemcpcgcnjahjaaGreatDoor
