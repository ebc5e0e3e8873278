/-
  The reference's channel.
-/
import Derived.Test.YtemcpcgcnjahjaaGreatDoorSpecF
import Derived.Test.YtemcpcgcnjahjaaGreatDoorSpecE
namespace Go.Proofs.YtemcpcgcnjahjaaGreatDoor
open Go.RowKit

theorem IntAt.fr {g : Nat} {xs : List Int} {w w' : World} {B : Nat} {S : List Nat} (h : IntAt g xs w) (f : Fr B S w w') (hg : g ∉ S) : IntAt g xs w' := by
  obtain ⟨sc, hG, hx⟩ := h
  exact ⟨sc, f.at hG hg (by decide), hx⟩
theorem IntAt.alloc {g : Nat} {xs : List Int} {w : World} (h : IntAt g xs w) (o : Obj) : IntAt g xs (w.alloc o) := by
  obtain ⟨sc, hG, hx⟩ := h
  exact ⟨sc, heap_alloc hG, hx⟩
theorem IntAt.ne {g W : Nat} {xs : List Int} {w : World} {c : Array Value} {T : TypeId} {fz : Nat × Nat} (h : IntAt g xs w) (hW : w.heap[W]? = some (.cells c T fz)) (hn : (3 : TypeId) ≠ T) : g ∉ [W] := by
  obtain ⟨sc, hG, _⟩ := h
  have := ne_of_types hG hW hn
  simpa using this

/-- A channel as the reference is given it. -/
def PSub.sv (s : PSub) (P pcap g cap : Nat) : Value := .agg #[.int .i64 s.kind, .int .i64 s.ord, .int .i64 s.parts, .slice (some ⟨P, 0, none⟩) s.pars.length pcap, .slice (some ⟨g, 0, none⟩) s.smp.length cap]
/-- The cells of it. -/
def PSub.sc (s : PSub) (P pcap g cap : Nat) : Array Value := #[.int .i64 s.kind, .int .i64 s.ord, .int .i64 s.parts, .slice (some ⟨P, 0, none⟩) s.pars.length pcap, .slice (some ⟨g, 0, none⟩) s.smp.length cap]

/-- Between the calls of given: the channel's own cells, its numbers. -/
structure GS (c : PSub) (B W H P pcap g cap : Nat) (wA : World) (s : List UInt8 × List Bool) (w : World) : Prop where
  sw : SW B W s w
  fr : Fr B [W] wA w
  hdr : w.heap[H]? = some (.cells (c.sc P pcap g cap) 87 (0, 0))
  smp : IntAt g c.smp w
  pars : IntAt P (c.pars.map Int.ofNat) w

theorem GS.next {c : PSub} {B W H P pcap g cap : Nat} {wA w w' : World} {s s' : List UInt8 × List Bool} (h : GS c B W H P pcap g cap wA s w) (hb : SW B W s' w') (hf : Fr B [W] w w') : GS c B W H P pcap g cap wA s' w' := by
  obtain ⟨v, hW, _⟩ := id h.sw
  refine ⟨hb, h.fr.trans hf, hf.at h.hdr ?_ (by decide), h.smp.fr hf (h.smp.ne hW (by decide)), h.pars.fr hf (h.pars.ne hW (by decide))⟩
  have := ne_of_types h.hdr hW (by decide)
  simpa using this
theorem GS.kp {c : PSub} {B W H P pcap g cap : Nat} {wA w w' : World} {s : List UInt8 × List Bool} (h : GS c B W H P pcap g cap wA s w) (k : Kp [] w w') : GS c B W H P pcap g cap wA s w' :=
  ⟨h.sw.kp k (by simp), h.fr.trans ((k.fr h.sw.baseLe (by simp)).mono (Nat.le_refl _) (by simp)), k.at h.hdr (by simp), h.smp.kp k (by simp), h.pars.kp k (by simp)⟩

set_option maxRecDepth 100000 in
set_option maxHeartbeats 8000000 in
/-- (*writer).given, of a constant or as it stands. -/
theorem specGiven01 (c : PSub) (B W P pcap g cap bps : Nat) (s : List UInt8 × List Bool) (w : World) (h : SW B W s w) (hs : IntAt g c.smp w) (hp : IntAt P (c.pars.map Int.ofNat) w) (hok : c.Ok) (hk : c.kind ≤ 1) (hb : bps ≤ 62) (hl : cnt s ≤ 70000000000000) :
    Calls Tryz.prog 43 #[.pointer (some ⟨W, 0, none⟩), c.sv P pcap g cap, .int .i64 bps] w fun e w' => e = .returned (.tuple #[]) ∧ SW B W (wrB s (c.bits bps)) w' ∧ Fr B [W] w w' := by
  have HL := Lib.hid hl; clear hl
  have HK := Lib.hid hok; clear hok
  have hs1 := HK.out.some
  have hs2 := HK.out.few
  have ho4 := HK.out.ord
  have HA : Hid (GS c B W w.heap.size P pcap g cap w s (w.alloc (.cells (c.sc P pcap g cap) 87))) := ⟨h.kp (Kp.alloc [] _ _) (by simp), (((Kp.alloc [] w _).fr h.baseLe (by simp)).mono (Nat.le_refl _) (by simp)), heap_alloc_new _ _, hs.alloc _, hp.alloc _⟩
  clear h hs hp
  unfold PSub.sv
  have hcases : c.kind = 0 ∨ c.kind = 1 := by omega
  rcases hcases with k0 | k0
  all_goals
    have HPOST : Hid (c.bits bps = subHead c.kind c.ord ++ if c.kind = 0 then bitsN (c.smp.getD 0 0) bps else if c.kind = 1 then verbB c.smp bps else verbB (c.smp.take c.ord) bps ++ c.restBits) := rfl
    have HKI := Lib.hid k0
    clear hk k0
    go_enter Tryz.func43, Tryz.ntmps43
    go_wp2_with fail
    refine (swordI B W 0 1 s _ HA.out.sw (by omega) (by omega) (by have := HL.out; omega)).mono ?_
    rintro e w1 ⟨rfl, hb1, hf1, _⟩
    have H1 := Lib.hid (HA.out.next hb1 hf1); clear hb1 hf1
    have c0 := Lib.cell_of_heap H1.out.hdr 0
    have c1 := Lib.cell_of_heap H1.out.hdr 1
    simp only [PSub.sc, List.getElem?_toArray, List.getElem?_cons_zero, List.getElem?_cons_succ] at c0 c1
    rw [HKI.out] at c0
    have H2 := Lib.hid (H1.out.kp (Kp.alloc [] w1 (.cells #[.int .i64 0, .int .i64 1, .int .i64 (8 + (c.ord : Int))] 3)))
    have hlt := Lib.lt_of_heap H1.out.hdr
    go_wp2_with fail
    refine (swordI B W _ 6 _ _ H2.out.sw (by omega) (by omega) (by have := HL.out; rw [cnt_wrB, bitsN_length]; simp; omega)).mono ?_
    rintro e w2 ⟨rfl, hb1, hf1, _⟩
    have H3 := Lib.hid (H2.out.next hb1 hf1); clear hb1 hf1 c0 c1 hlt
    go_wp2_with fail
    refine (swordI B W 0 1 _ _ H3.out.sw (by omega) (by omega) (by have := HL.out; simp only [cnt_wrB, bitsN_length]; simp; omega)).mono ?_
    rintro e w3 ⟨rfl, hb1, hf1, _⟩
    have h4 := H3.out.next hb1 hf1; clear hb1 hf1
    rw [← wrB_append, ← wrB_append, show (1 : Int).toNat = 1 from rfl, show (6 : Int).toNat = 6 from rfl] at h4
    have H4 : Hid (GS c B W w.heap.size P pcap g cap w (wrB s (subHead c.kind c.ord)) w3) := by
      have e : bitsN 0 1 ++ (bitsN (kindCode c.kind c.ord) 6 ++ bitsN 0 1) = subHead c.kind c.ord := by
        unfold subHead
        rw [List.append_assoc]; rfl
      rw [← e]
      rw [HKI.out]
      exact h4
    clear h4 H3 H2 H1 HA
    have c0 := Lib.cell_of_heap H4.out.hdr 0
    have c4 := Lib.cell_of_heap H4.out.hdr 4
    simp only [PSub.sc, List.getElem?_toArray, List.getElem?_cons_zero, List.getElem?_cons_succ] at c0 c4
    rw [HKI.out] at c0
    have HCW : Hid (cnt (wrB s (subHead c.kind c.ord)) ≤ 70000000000008) := by
      have := HL.out
      show _ ≤ _
      rw [cnt_wrB]
      have h3 : (subHead c.kind c.ord).length = 8 := by simp [subHead, bitsN_length]
      rw [h3]; omega
  · have hcell := H4.out.smp.get 0 (by omega)
    have HE : Hid (c.bits bps = subHead c.kind c.ord ++ bitsN (c.smp.getD 0 0) bps) := by
      show _ = _
      rw [HPOST.out, HKI.out, if_pos rfl]
    generalize c.smp.getD 0 0 = x at hcell HE
    clear HPOST
    go_wp2_with fail
    refine (swordI B W x bps _ _ H4.out.sw (by omega) (by omega) (by have := HCW.out; rw [Int.toNat_natCast]; omega)).mono ?_
    rintro e w4 ⟨rfl, hb1, hf1, _⟩
    have H5 := H4.out.next hb1 hf1
    rw [Int.toNat_natCast, ← wrB_append, ← HE.out] at H5
    have H6 := Lib.hid H5
    clear hb1 hf1 H5
    go_wp2_with fail
    refine bodyPost_ret (v := .tuple #[]) (results_none rfl _ _ _) rfl ?_
    exact ⟨rfl, H6.out.sw, H6.out.fr⟩
  · have HE : Hid (c.bits bps = subHead c.kind c.ord ++ verbB c.smp bps) := by
      show _ = _
      rw [HPOST.out, HKI.out, if_neg (by decide), if_pos rfl]
    clear HPOST
    go_wp2_with fail
    go_loopw [46] (fun j wx => ∃ k : Nat, k ≤ c.smp.length ∧ j = .int .i64 k ∧ GS c B W w.heap.size P pcap g cap w (wrB s (subHead c.kind c.ord ++ verbB (c.smp.take k) bps)) wx) (fun j _ => c.smp.length - (intOf j).toNat)
    case atStart => exact ⟨0, by omega, rfl, by simpa [verbB] using H4.out⟩
    case round =>
      clear H4 c0 c4
      obtain ⟨k, hk, rfl, hg⟩ := hrel
      have HG := Lib.hid hg
      clear hg
      by_cases hkn : k < c.smp.length
      · have hcell := HG.out.smp.get k hkn
        have HT := Lib.hid (verbB_take c.smp bps k hkn)
        have HN : Hid (cnt (wrB s (subHead c.kind c.ord ++ verbB (c.smp.take k) bps)) + bps ≤ 70368744177664) := by
          have h1 := HCW.out
          have h2 : k * bps ≤ 256 * 62 := Nat.mul_le_mul (by omega) hb
          show _ ≤ _
          rw [wrB_append, cnt_wrB _ (verbB _ _), verbB_length, List.length_take_of_le (by omega)]
          omega
        generalize c.smp.getD k 0 = x at hcell HT
        go_wp2_with fail
        refine (swordI B W x bps _ _ HG.out.sw (by omega) (by omega) (by have := HN.out; rw [Int.toNat_natCast]; omega)).mono ?_
        rintro e w4 ⟨rfl, hb1, hf1, _⟩
        have H5 := HG.out.next hb1 hf1
        rw [Int.toNat_natCast, ← wrB_append, List.append_assoc, ← HT.out] at H5
        have H6 := Lib.hid H5
        clear hb1 hf1 H5
        go_wp2_with fail
        go_roundw
        case rel => exact ⟨k + 1, by omega, by go_num, H6.out⟩
        case measure => simp [intOf]; omega
      · obtain rfl : k = c.smp.length := by omega
        rw [List.take_length, ← HE.out] at HG
        go_wp2_with fail
        refine bodyPost_ret (v := .tuple #[]) (results_none rfl _ _ _) rfl ?_
        exact ⟨rfl, HG.out.sw, HG.out.fr⟩
end Go.Proofs.YtemcpcgcnjahjaaGreatDoor
