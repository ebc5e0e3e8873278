/-
  The law's own makers, the small ones.
-/
import Derived.Test.YtemcpcgcnjahjaaGreatDoorOwn
import Derived.Test.YtemcpcgcnjahjaaGreatDoorSpecJ
import Derived.Deep.QuietTactic
import Derived.BigQuiet
namespace Go.Proofs.YtemcpcgcnjahjaaGreatDoor
open Go.RowKit

theorem BytesAt.kp {g o : Nat} {bs : List UInt8} {w w' : World} (h : BytesAt g o bs w) (k : Kp [] w w') : BytesAt g o bs w' := fun i x hx => by
  have h1 := h i x hx
  have hl := World.block_lt_of_cell? _ _ h1
  rw [World.cell?_of_block (k.block _ hl (by simp)), h1]
theorem BytesAt.news {g : Nat} {bs : List UInt8} {w : World} (h : BytesAt g 0 bs w) : ∀ (j : Nat) u, (Lib.byteCells bs)[j]? = some u → w.cell? ((⟨g, 0, none⟩ : Addr).add j) = some u := by
  intro j u hj
  rw [Lib.addr_add, Nat.zero_add]
  simp only [Lib.byteCells, List.getElem?_map, Option.map_eq_some_iff] at hj
  obtain ⟨x, hx, rfl⟩ := hj
  have := h j x hx
  rwa [Nat.zero_add] at this

/-- Some new bytes, so many at most. -/
def SomeBytes (K : Nat) (w : World) (e : Ending) (w' : World) : Prop := ∃ bs : List UInt8, bs.length ≤ K ∧ 0 < bs.length ∧ NewBytes bs w e w'

set_option maxHeartbeats 1000000 in
/-- spec.Channels. -/
theorem specChannels (a : Nat) (h : a < 8) (w : World) : Calls Tryz.prog 18 #[.int .i64 a] w fun e w' => e = .returned (.int .i64 (a + 1 : Nat)) ∧ w' = w := by
  have h2 : ¬ 7 < a := by omega
  go_enter Tryz.func18, Tryz.ntmps18
  go_wp2_with fail
  go_ret
  exact ⟨by congr 2, rfl⟩

set_option maxHeartbeats 1000000 in
/-- laws.few: yes. -/
theorem lawFewYes (d k : Option Addr) (n c m q : Nat) (w : World) (hn : n ≤ 1000) (hm : m ≤ 100) :
    Calls Tryz.prog 4 #[.slice d n c, .slice k m q] w fun r w' => r = .returned (.bool true) ∧ w' = w := by
  go_enter Tryz.func4, Tryz.ntmps4
  go_wp2_with fail
  go_ret
  refine ⟨?_, rfl⟩
  show Ending.returned (.bool (decide ((m : Int) ≤ 100))) = _
  rw [decide_eq_true (by omega)]

set_option maxHeartbeats 1000000 in
/-- laws.few: no. -/
theorem lawFewNo (d k : Option Addr) (n c m q : Nat) (w : World) (h : 1000 < n ∨ 100 < m) :
    Calls Tryz.prog 4 #[.slice d n c, .slice k m q] w fun r w' => r = .returned (.bool false) ∧ w' = w := by
  by_cases hn : n ≤ 1000
  · have hm : ¬ m ≤ 100 := by omega
    clear h
    go_enter Tryz.func4, Tryz.ntmps4
    go_wp2_with fail
    go_ret
    refine ⟨?_, rfl⟩
    show Ending.returned (.bool (decide ((m : Int) ≤ 100))) = _
    rw [decide_eq_false (by omega)]
  · clear h
    go_enter Tryz.func4, Tryz.ntmps4
    go_wp2_with fail
    go_ret
    exact ⟨rfl, rfl⟩

set_option maxHeartbeats 2000000 in
/-- spec.sideOf: never. -/
theorem specSide (a c : Nat) (h : a < 8) (w : World) : Calls Tryz.prog 47 #[.int .i64 a, .int .i64 c] w fun e w' => e = .returned (.bool false) ∧ w' = w := by
  have h8 : ((a : Int) == 8) = false := by simp; omega
  have h9 : ((a : Int) == 9) = false := by simp; omega
  have h10 : ((a : Int) == 10) = false := by simp; omega
  go_enter Tryz.func47, Tryz.ntmps47
  go_wp2_with fail
  go_ret
  exact ⟨rfl, rfl⟩

set_option maxRecDepth 100000 in
set_option maxHeartbeats 4000000 in
/-- spec.WriteBlock: some bytes. -/
theorem specBlock (g n c : Nat) (bs : List UInt8) (w : World) (hn : bs.length = n) (hl : n ≤ 40) (hb : BytesAt g 0 bs w) :
    Calls Tryz.prog 23 #[.int .i64 1, .slice (some ⟨g, 0, none⟩) n c, .bool true] w (SomeBytes 44 w) := by
  have HN := Bx.mk hn; clear hn
  have HB := Bx.mk hb; clear hb
  have hs0 := sw_new w (.cells #[.slice none 0 0, .int .i64 0] 158) w.heap.size (by simp) rfl
  have HS := Bx.mk hs0
  have HK := Bx.mk (Kp.alloc [] w (.cells #[.slice none 0 0, .int .i64 0] 158))
  clear hs0
  go_enter Tryz.func23, Tryz.ntmps23
  go_wp2_with fail
  refine (swordI w.heap.size _ 1 1 _ _ HS.out (by omega) (by omega) (by simp [cnt])).mono ?_
  rintro e w1 ⟨rfl, hb, hf, _⟩
  have H1 := Bx.mk hb
  have K1 := Bx.mk (HK.out.thenFr hf (Nat.le_refl _)); clear hb hf HS HK
  go_wp2_with fail
  refine (swordI w.heap.size _ 1 7 _ _ H1.out (by omega) (by omega) (by simp only [cnt_wrB, bitsN_length]; simp [cnt])).mono ?_
  rintro e w2 ⟨rfl, hb, hf, _⟩
  have H2 := Bx.mk hb
  have K2 := Bx.mk (K1.out.thenFr hf (Nat.le_refl _)); clear hb hf H1 K1
  go_wp2_with fail
  refine (swordI w.heap.size _ n 24 _ _ H2.out (by omega) (by omega) (by simp only [cnt_wrB, bitsN_length]; simp [cnt])).mono ?_
  rintro e w3 ⟨rfl, hb, hf, _⟩
  have K3 := Bx.mk (K2.out.thenFr hf (Nat.le_refl _)); clear hf H2 K2
  rw [← wrB_append, ← wrB_append] at hb
  have hcn2 : cnt (wrB ([], []) (bitsN 1 (1 : Int).toNat ++ (bitsN 1 (7 : Int).toNat ++ bitsN n (24 : Int).toNat))) = 32 := by
    rw [cnt_wrB]
    simp only [List.length_append, bitsN_length]
    rfl
  generalize wrB ([], []) (bitsN 1 (1 : Int).toNat ++ (bitsN 1 (7 : Int).toNat ++ bitsN n (24 : Int).toNat)) = s at hb hcn2
  obtain ⟨v, hW, hown, hf8, _, _⟩ := hb
  have hol : (outB s).length = 4 := by
    rw [outB_length]
    unfold cnt at hcn2
    have : s.2.length = 0 := by omega
    rw [if_pos this]; omega
  rw [hol] at hown
  obtain ⟨g', cap', rfl, hg1, hg2⟩ := hown.form (by omega)
  have c0 := Lib.cell_of_heap hW 0
  simp only [List.getElem?_toArray, List.getElem?_cons_zero] at c0
  obtain ⟨i0, hi, hz0, hz1, hz2⟩ := info_parts Tryz.info5c
  have HO := Bx.mk hown
  have HL := Bx.mk hol
  clear hown hW hf8 hcn2 hol
  have HNB : Bx (∀ (j : Nat) u, (Lib.byteCells bs)[j]? = some u → w3.cell? ((⟨g, 0, none⟩ : Addr).add j) = some u) := ⟨(HB.out.kp K3.out).news⟩
  go_wp2_with (at_builtin; refine wpList_append_own _ rfl (.tmp 25) (.tmp 26) 23 rfl w.heap.size 5 i0 (.int .u8 0) 1 1 Tryz.underlying23 hi hz0 hz1 hz2 rfl (by decide) (.slice (some ⟨g', 0, none⟩) 4 cap') 4 (Lib.byteCells (outB s)) (by simp [Act.eval]) HO.out ⟨g, 0, none⟩ n c (Lib.byteCells bs) (by simp [Act.eval]) (by rw [byteCells_length, HN.out]; simp) HNB.out (byteCells_one _) (by unfold maxLen; omega) (by omega) (by omega) ?_)
  intro v' w4 hown hgrow _
  obtain ⟨g4, cap4, rfl, _, _⟩ := hown.form (by omega)
  have HK4 := Bx.mk (K3.out.new (growKp HO.out hgrow).1 (growKp HO.out hgrow).2.2)
  have HO4 := Bx.mk hown
  clear hown hgrow
  go_wp2_with fail
  go_ret
  refine ⟨outB s ++ bs, by rw [List.length_append, HL.out, HN.out]; omega, by rw [List.length_append, HL.out]; omega, g4, cap4, ?_, ?_, HK4.out⟩
  · rw [List.length_append, HL.out, HN.out]
    rfl
  · rw [List.length_append, HL.out, HN.out, byteCells_append]
    exact HO4.out
end Go.Proofs.YtemcpcgcnjahjaaGreatDoor
