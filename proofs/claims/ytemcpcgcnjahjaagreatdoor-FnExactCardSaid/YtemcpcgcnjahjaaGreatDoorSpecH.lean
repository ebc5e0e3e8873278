/-
  The reference's channel by a polynomial.
-/
import Derived.Test.YtemcpcgcnjahjaaGreatDoorSpecG
import Derived.Deep.CutRange
namespace Go.Proofs.YtemcpcgcnjahjaaGreatDoor
open Go.RowKit

set_option maxRecDepth 100000 in
set_option maxHeartbeats 16000000 in
/-- (*writer).given, by a polynomial. -/
theorem specGiven2 (c : PSub) (B W P pcap g cap bps : Nat) (s : List UInt8 × List Bool) (w : World) (h : SW B W s w) (hs : IntAt g c.smp w) (hp : IntAt P (c.pars.map Int.ofNat) w) (hok : c.Ok) (hk : c.kind = 2) (hb : bps ≤ 62) (hcap : c.smp.length ≤ cap) (hl : cnt s ≤ 70000000000000) :
    Calls Tryz.prog 43 #[.pointer (some ⟨W, 0, none⟩), c.sv P pcap g cap, .int .i64 bps] w fun e w' => e = .returned (.tuple #[]) ∧ SW B W (wrB s (c.bits bps)) w' ∧ Fr B [W] w w' := by
  have HL := Lib.hid hl; clear hl
  have HK := Lib.hid hok; clear hok
  have hs1 := HK.out.some
  have hs2 := HK.out.few
  have ho4 := HK.out.ord
  have HA : Hid (GS c B W w.heap.size P pcap g cap w s (w.alloc (.cells (c.sc P pcap g cap) 87))) := ⟨h.kp (Kp.alloc [] _ _) (by simp), (((Kp.alloc [] w _).fr h.baseLe (by simp)).mono (Nat.le_refl _) (by simp)), heap_alloc_new _ _, hs.alloc _, hp.alloc _⟩
  clear h hs hp
  unfold PSub.sv
  have hlo := HK.out.less hk
  have HPA := Lib.hid (HK.out.parts hk)
  have HRO := Lib.hid (HK.out.rests hk)
  have HE : Hid (c.bits bps = subHead c.kind c.ord ++ (verbB (c.smp.take c.ord) bps ++ c.restBits)) := by
    show _ = _
    unfold PSub.bits
    rw [if_neg (by omega), if_neg (by omega)]
  have HKI := Lib.hid hk
  clear hk
  go_enter Tryz.func43, Tryz.ntmps43
  go_wp2_with fail
  refine (swordI B W 0 1 s _ HA.out.sw (by omega) (by omega) (by have := HL.out; omega)).mono ?_
  rintro e w1 ⟨rfl, hb1, hf1, _⟩
  have H1 := Lib.hid (HA.out.next hb1 hf1); clear hb1 hf1
  have c0 := Lib.cell_of_heap H1.out.hdr 0
  have c1 := Lib.cell_of_heap H1.out.hdr 1
  simp only [PSub.sc, List.getElem?_toArray, List.getElem?_cons_zero, List.getElem?_cons_succ] at c0 c1
  rw [HKI.out] at c0
  have H2 := Lib.hid (H1.out.kp (Kp.alloc [] w1 (.cells #[.int .i64 0, .int .i64 1, .int .i64 (8 + (c.ord : Int))] 3)))
  have hlt := Lib.lt_of_heap H1.out.hdr
  go_wp2_with fail
  refine (swordI B W _ 6 _ _ H2.out.sw (by omega) (by omega) (by have := HL.out; rw [cnt_wrB, bitsN_length]; simp; omega)).mono ?_
  rintro e w2 ⟨rfl, hb1, hf1, _⟩
  have H3 := Lib.hid (H2.out.next hb1 hf1); clear hb1 hf1 c0 c1 hlt
  go_wp2_with fail
  refine (swordI B W 0 1 _ _ H3.out.sw (by omega) (by omega) (by have := HL.out; simp only [cnt_wrB, bitsN_length]; simp; omega)).mono ?_
  rintro e w3 ⟨rfl, hb1, hf1, _⟩
  have h4 := H3.out.next hb1 hf1; clear hb1 hf1
  rw [← wrB_append, ← wrB_append, show (1 : Int).toNat = 1 from rfl, show (6 : Int).toNat = 6 from rfl] at h4
  have H4 : Hid (GS c B W w.heap.size P pcap g cap w (wrB s (subHead c.kind c.ord)) w3) := by
    have e : bitsN 0 1 ++ (bitsN (kindCode c.kind c.ord) 6 ++ bitsN 0 1) = subHead c.kind c.ord := by
      unfold subHead
      rw [List.append_assoc]; rfl
    rw [← e]
    rw [HKI.out]
    exact h4
  clear h4 H3 H2 H1 HA
  have c0 := Lib.cell_of_heap H4.out.hdr 0
  have c4 := Lib.cell_of_heap H4.out.hdr 4
  simp only [PSub.sc, List.getElem?_toArray, List.getElem?_cons_zero, List.getElem?_cons_succ] at c0 c4
  rw [HKI.out] at c0
  have HCW : Hid (cnt (wrB s (subHead c.kind c.ord)) ≤ 70000000000008) := by
    have := HL.out
    show _ ≤ _
    rw [cnt_wrB]
    have h3 : (subHead c.kind c.ord).length = 8 := by simp [subHead, bitsN_length]
    rw [h3]; omega
  have c1 := Lib.cell_of_heap H4.out.hdr 1
  simp only [PSub.sc, List.getElem?_toArray, List.getElem?_cons_zero, List.getElem?_cons_succ] at c1
  go_wp2_with fail
  go_loopw [61] (fun j wx => ∃ k : Nat, k ≤ c.ord ∧ j = .int .i64 k ∧ GS c B W w.heap.size P pcap g cap w (wrB s (subHead c.kind c.ord ++ verbB (c.smp.take k) bps)) wx) (fun j _ => c.ord - (intOf j).toNat)
  case atStart => exact ⟨0, by omega, rfl, by simpa [verbB] using H4.out⟩
  case round =>
    clear H4 c0 c4 c1
    obtain ⟨k, hk, rfl, hg⟩ := hrel
    have HG := Lib.hid hg
    clear hg
    have HN : Hid (cnt (wrB s (subHead c.kind c.ord ++ verbB (c.smp.take k) bps)) ≤ 70000000000400) := by
      have h1 := HCW.out
      have h2 : k * bps ≤ 4 * 62 := Nat.mul_le_mul (by omega) hb
      show _ ≤ _
      rw [wrB_append, cnt_wrB _ (verbB _ _), verbB_length, List.length_take_of_le (by omega)]
      omega
    by_cases hkn : k < c.ord
    · have hcell := HG.out.smp.get k (by omega)
      have HT := Lib.hid (verbB_take c.smp bps k (by omega))
      generalize c.smp.getD k 0 = x at hcell HT
      go_wp2_with fail
      refine (swordI B W x bps _ _ HG.out.sw (by omega) (by omega) (by have := HN.out; rw [Int.toNat_natCast]; omega)).mono ?_
      rintro e w4 ⟨rfl, hb1, hf1, _⟩
      have H5 := HG.out.next hb1 hf1
      rw [Int.toNat_natCast, ← wrB_append, List.append_assoc, ← HT.out] at H5
      have H6 := Lib.hid H5
      clear hb1 hf1 H5
      go_wp2_with fail
      go_roundw
      case rel => exact ⟨k + 1, by omega, by go_num, H6.out⟩
      case measure => simp [intOf]; omega
    · obtain rfl : k = c.ord := by omega
      have c1 := Lib.cell_of_heap HG.out.hdr 1
      have c4 := Lib.cell_of_heap HG.out.hdr 4
      simp only [PSub.sc, List.getElem?_toArray, List.getElem?_cons_zero, List.getElem?_cons_succ] at c1 c4
      go_wp2_with fail
      refine (specRests c.ord ho4 g cap c.smp _ _ _ _ _ _ _ wr HG.out.smp HK.out.mid hlo hs2).mono ?_
      rintro e w4 ⟨rg, rcap, rfl, hown, hkp⟩
      have hR4 := own_ints hown
      have hrc : (rests c.ord c.smp).length ≤ rcap := by
        rcases hown.2 with ⟨h, _⟩ | ⟨g5, cap5, cur, h, _, _, hnc, _⟩
        · cases h
        · cases h; exact hnc
      have hRW : rg ∉ [W] := by
        have h1 := (hown.lt rg rfl).1
        have h2 := HG.out.sw.len
        simp; omega
      have H5 := Lib.hid (HG.out.kp hkp)
      have HR4 := Lib.hid hR4
      have HRW := Lib.hid hRW
      have HRL : Hid ((rests c.ord c.smp).length = c.smp.length - c.ord) := rests_length _ _
      clear hown hkp hR4 hRW c1 c4 HG
      rw [HRL.out] at hrc ⊢
      go_wp2_with fail
      refine (swordI B W 0 2 _ _ H5.out.sw (by omega) (by omega) (by have := HN.out; simp; omega)).mono ?_
      rintro e w5 ⟨rfl, hb1, hf1, _⟩
      have H6 := Lib.hid (H5.out.next hb1 hf1)
      have HR5 := Lib.hid (HR4.out.fr hf1 HRW.out)
      clear hb1 hf1 H5 HR4
      have c2 := Lib.cell_of_heap H6.out.hdr 2
      simp only [PSub.sc, List.getElem?_toArray, List.getElem?_cons_zero, List.getElem?_cons_succ] at c2
      go_wp2_with fail
      clear c2
      refine (swordI B W c.parts 4 _ _ H6.out.sw (by omega) (by omega) (by have := HN.out; rw [cnt_wrB, bitsN_length]; simp; omega)).mono ?_
      rintro e w6 ⟨rfl, hb1, hf1, _⟩
      have h7 := H6.out.next hb1 hf1
      have HR6 := Lib.hid (HR5.out.fr hf1 HRW.out)
      clear hb1 hf1 H6 HR5
      rw [← wrB_append, ← wrB_append, show (2 : Int).toNat = 2 from rfl, show (4 : Int).toNat = 4 from rfl] at h7
      have H7 := Lib.hid h7
      clear h7
      generalize hXe : subHead c.kind c.ord ++ verbB (c.smp.take c.ord) bps = X at H7 HN
      have HXE := Lib.hid hXe
      clear hXe
      have HCY : Hid (cnt (wrB s (X ++ (bitsN 0 2 ++ bitsN c.parts 4))) ≤ 70000000000406) := by
        have h1 := HN.out
        show _ ≤ _
        rw [wrB_append, cnt_wrB _ (_ ++ _), List.length_append, bitsN_length, bitsN_length]; omega
      generalize hYe : X ++ (bitsN 0 2 ++ bitsN c.parts 4) = Y at H7 HCY
      have HYE := Lib.hid hYe
      clear hYe
      have c3 := Lib.cell_of_heap H7.out.hdr 3
      simp only [PSub.sc, List.getElem?_toArray, List.getElem?_cons_zero, List.getElem?_cons_succ] at c3
      go_wp2_with fail
      clear c3
      go_loopw [10, 85] (fun r j wx => ∃ k a cp : Nat, k ≤ c.pars.length ∧ j = .int .i64 k ∧ r = .slice (some ⟨rg, a, none⟩) (c.smp.length - c.ord - partOff c.n c.ord k) cp ∧ (partOff c.n c.ord k < c.smp.length - c.ord → a = partOff c.n c.ord k) ∧ c.smp.length - c.ord - partOff c.n c.ord k ≤ cp ∧
        GS c B W w.heap.size P pcap g cap w (wrB s (Y ++ partsB c.n c.ord (rests c.ord c.smp) c.pars k)) wx ∧ IntAt rg (rests c.ord c.smp) wx ∧ cnt (wrB s (Y ++ partsB c.n c.ord (rests c.ord c.smp) c.pars k)) ≤ 70000000000406 + 4 * k + 100016 * partOff c.n c.ord k) (fun _ j _ => c.pars.length - (intOf j).toNat)
      case atStart =>
        refine ⟨0, 0, rcap, by omega, rfl, by simp [partOff], fun _ => by simp [partOff], by simpa [partOff] using hrc, ?_, HR6.out, ?_⟩
        · simpa [partsB] using H7.out
        · have h1 := HCY.out
          simp only [partsB, List.range_zero, List.flatMap_nil, List.append_nil]; omega
      case round =>
        clear H7 HR6
        obtain ⟨k, a, cp, hk, rfl, rfl, ha, hcp, hg, hr, hcn⟩ := hrel
        have HG := Lib.hid hg
        have HR := Lib.hid hr
        have HCN := Lib.hid hcn
        have HAA := Lib.hid ha
        clear hg hr hcn ha
        by_cases hkn : k < c.pars.length
        · have HKN := Lib.hid hkn
          have hcell := HG.out.pars.get k (by simpa using hkn)
          have hpe : (c.pars.map Int.ofNat).getD k 0 = ((c.pars.getD k 0 : Nat) : Int) := by
            simp [List.getD_eq_getElem?_getD, hkn]
          rw [hpe] at hcell
          have hpm : c.pars.getD k 0 ∈ c.pars := by
            rw [List.getD_eq_getElem?_getD, List.getElem?_eq_getElem hkn]; exact List.getElem_mem _
          have hp14 := HRO.out.par _ hpm
          have HFW := Lib.hid (HRO.out.few _ hpm)
          have HT := Lib.hid (partsB_succ c.n c.ord (rests c.ord c.smp) c.pars k)
          clear hpe hpm
          have HPS := Lib.hid (partOff_succ c.n c.ord k HPA.out.2.2.2)
          have HOff : Hid (partOff c.n c.ord k + partLen c.n c.ord k ≤ c.smp.length - c.ord ∧ k < 4 ∧ c.n ≤ 256 ∧ c.pars.length ≤ 4) := by
            obtain ⟨h1, h2, h3, h4⟩ := HPA.out
            have h5 : 2 ^ c.parts ≤ 2 ^ 2 := Nat.pow_le_pow_right (by decide) h1
            have h6 : (k + 1) * c.n ≤ 2 ^ c.parts * c.n := Nat.mul_le_mul_right _ (by omega)
            rw [Nat.mul_comm (2 ^ c.parts) c.n, h3] at h6
            have h7 := HPS.out
            simp only [partOff, Nat.add_eq_zero_iff, if_false, show ¬ (1 : Nat) = 0 by decide, and_false] at h7
            have h8 : c.n ≤ 256 := Nat.le_trans (Nat.div_le_self _ _) hs2
            refine ⟨?_, by omega, h8, by omega⟩
            unfold partOff
            omega
          have hn2 : (c.smp.length : Int) / 2 ^ min c.parts 64 = (c.n : Int) := by
            have h1 := HPA.out.1
            rw [Nat.min_eq_left (by omega)]
            unfold PSub.n
            simp
          generalize c.pars.getD k 0 = p at hcell hp14 HFW HT
          have c4 := Lib.cell_of_heap HG.out.hdr 4
          have c2 := Lib.cell_of_heap HG.out.hdr 2
          have c1 := Lib.cell_of_heap HG.out.hdr 1
          simp only [PSub.sc, List.getElem?_toArray, List.getElem?_cons_zero, List.getElem?_cons_succ] at c1 c2 c4
          go_upto_if 97 with fail
          clear hn2
          generalize hnn : c.n = nn at HPS HOff HAA HT HG HCN hcp ⊢
          have HNN := Lib.hid hnn
          clear hnn
          go_cut [13] from 98 to 128 (fun u wx => u = .int .i64 (partLen nn c.ord k : Nat) ∧ wr = wx)
          case first =>
            have hon : c.ord ≤ nn := by have h1 := HPA.out.2.2.2; rw [HNN.out] at h1; exact h1
            have hn256 := HOff.out.2.2.1
            clear HG HR HCN HAA HOff HPS HT HFW HNN HPA HRO hcell c2 c4 HL HK HE HKI HCW HN HRL HRW HXE HCY HYE HKN hcp hp14
            by_cases hk0 : k = 0
            · have hkb : ((k : Int) == 0) = true := by simp [hk0]
              have HPL : Hid (partLen nn c.ord k = nn - c.ord) := by show _ = _; simp [partLen, hk0]
              clear hk0
              go_wp2_with fail
              go_meet
              case rel =>
                refine ⟨?_, rfl⟩
                rw [HPL.out]
                congr 1; omega
            · have hkb : ((k : Int) == 0) = false := by simp [hk0]
              have HPL : Hid (partLen nn c.ord k = nn) := by show _ = _; simp [partLen, hk0]
              clear hk0
              go_wp2_with fail
              go_meet
              case rel => exact ⟨by rw [HPL.out], rfl⟩
          case rest =>
            obtain ⟨rfl, rfl⟩ := hcut
            clear c1 c2 c4
            have hPL : partLen nn c.ord k ≤ cp ∧ partLen nn c.ord k ≤ 256 ∧ partLen nn c.ord k ≤ c.smp.length - c.ord - partOff nn c.ord k := by
              have h1 := HOff.out
              omega
            obtain ⟨hpl1, hpl2, hpl3⟩ := hPL
            have HCN2 : Hid (cnt (wrB s (Y ++ partsB nn c.ord (rests c.ord c.smp) c.pars k ++ bitsN p 4)) ≤ 70000000000406 + 4 * (k + 1) + 100016 * partOff nn c.ord k) := by
              have h1 := HCN.out
              show _ ≤ _
              rw [wrB_append _ (Y ++ _), cnt_wrB _ (bitsN p 4), bitsN_length]; omega
            have HTE : Hid (Y ++ partsB nn c.ord (rests c.ord c.smp) c.pars k ++ bitsN p 4 ++ runB p (((rests c.ord c.smp).drop (partOff nn c.ord k)).take (partLen nn c.ord k)) = Y ++ partsB nn c.ord (rests c.ord c.smp) c.pars (k + 1)) := by
              show _ = _
              rw [HT.out]
              unfold partB
              simp only [List.append_assoc]
            go_wp2_with fail
            refine (swordI B W p 4 _ _ HG.out.sw (by omega) (by omega) (by have h1 := HCN.out; have h2 := HOff.out; rw [show (4 : Int).toNat = 4 from rfl]; omega)).mono ?_
            rintro e w7 ⟨rfl, hb1, hf1, _⟩
            have h8 := HG.out.next hb1 hf1
            have HR7 := Lib.hid (HR.out.fr hf1 HRW.out)
            rw [show (4 : Int).toNat = 4 from rfl, ← wrB_append] at h8
            have H8 := Lib.hid h8
            clear h8 hb1 hf1 HG HR hcell
            generalize Y ++ partsB nn c.ord (rests c.ord c.smp) c.pars k ++ bitsN p 4 = Z at HCN2 HTE H8
            go_wp2_with fail
            have HSM := HRO.out.small
            clear HPA HRO HL HK HE HKI HCW HN HRL HXE HCY HYE HT
            generalize partLen nn c.ord k = pl at hpl1 hpl2 hpl3 HPS HOff HTE ⊢
            generalize partOff nn c.ord k = off at hpl3 HPS HOff HAA HTE HCN2 hcp ⊢
            have HRL : Hid ((rests c.ord c.smp).length = c.smp.length - c.ord) := rests_length _ _
            have HSMX : Hid (∀ x ∈ rests c.ord c.smp, -1073741824 ≤ x ∧ x < 1073741824) := HSM
            go_loopw [109] (fun j wx => ∃ t : Nat, t ≤ pl ∧ j = .int .i64 t ∧ GS c B W w.heap.size P pcap g cap w (wrB s (Z ++ runB p (((rests c.ord c.smp).drop off).take t))) wx ∧ IntAt rg (rests c.ord c.smp) wx ∧ cnt (wrB s (Z ++ runB p (((rests c.ord c.smp).drop off).take t))) ≤ 70000000000406 + 4 * (k + 1) + 100016 * (off + t)) (fun j _ => pl - (intOf j).toNat)
            case atStart => exact ⟨0, by omega, rfl, by simpa [runB] using H8.out, HR7.out, by simpa [runB] using HCN2.out⟩
            case round =>
              clear H8 HR7 HCN2
              obtain ⟨t, ht, rfl, hg, hr, hcn⟩ := hrel
              have HG := Lib.hid hg
              have HR := Lib.hid hr
              have HCN := Lib.hid hcn
              clear hg hr hcn
              by_cases htp : t < pl
              · have hat : a = off := HAA.out (by omega)
                have HX := Lib.hid (HR.out.get (off + t) (by have := HRL.out; omega))
                have hmem : (rests c.ord c.smp).getD (off + t) 0 ∈ rests c.ord c.smp := by
                  rw [List.getD_eq_getElem?_getD, List.getElem?_eq_getElem (by have := HRL.out; omega)]
                  exact List.getElem_mem _
                have hxs := HSMX.out _ hmem
                have hxf := HFW.out _ hmem
                have HT := Lib.hid (runB_take p ((rests c.ord c.smp).drop off) t (by rw [List.length_drop]; have := HRL.out; omega))
                have e1 : ((rests c.ord c.smp).drop off).getD t 0 = (rests c.ord c.smp).getD (off + t) 0 := by
                  simp [List.getD_eq_getElem?_getD]
                rw [e1] at HT
                clear hmem e1
                generalize (rests c.ord c.smp).getD (off + t) 0 = x at HX hxs hxf HT
                have hcell : wr.cell? ⟨rg, a + t, none⟩ = some (.int .i64 x) := by rw [hat]; exact HX.out
                clear hat HX
                have HRB := Lib.hid (restB_length p x)
                have HRD : Hid (restB p x = unaryB (foldI x / 2 ^ p).toNat ++ bitsN (foldI x) p) := rfl
                have HTK := Lib.hid htp
                go_wp2_with fail
                refine (folded x _ (by omega) (by omega)).mono ?_
                rintro e w8 ⟨rfl, rfl⟩
                have hf0 := foldI_nonneg x
                obtain ⟨F, hF⟩ := Int.eq_ofNat_of_zero_le hf0
                rw [hF] at hxf HRB HRD ⊢
                have HF := Lib.hid hF
                clear hF hf0
                have hq : ((F : Int) / 2 ^ p).toNat = F / 2 ^ p := by
                  rw [show ((F : Int) / 2 ^ p) = ((F / 2 ^ p : Nat) : Int) from by simp]
                  exact Int.toNat_natCast _
                rw [hq] at hxf HRB HRD
                have hq2 : (F : Int) / 2 ^ p = ((F / 2 ^ p : Nat) : Int) := by simp
                clear hq
                generalize F / 2 ^ p = q at hxf HRB HRD hq2
                go_wp2_with fail
                clear hq2 hcell
                have HXF := Lib.hid hxf
                refine (sunary B W q _ _ HG.out.sw (by omega) (by have h1 := HCN.out; have h2 := HOff.out; omega)).mono ?_
                rintro e w9 ⟨rfl, hb1, hf1, _⟩
                have H9 := Lib.hid (HG.out.next hb1 hf1)
                have HR9 := Lib.hid (HR.out.fr hf1 HRW.out)
                clear hb1 hf1 HG HR
                go_wp2_with fail
                refine (folded x _ (by omega) (by omega)).mono ?_
                rintro e wa ⟨rfl, rfl⟩
                rw [HF.out]
                go_wp2_with fail
                refine (swordI B W F p _ _ H9.out.sw (by omega) (by omega) (by have h1 := HCN.out; have h2 := HOff.out; have h3 := HXF.out; rw [cnt_wrB _ (unaryB q), Int.toNat_natCast]; simp only [unaryB, List.length_append, List.length_replicate, List.length_singleton]; omega)).mono ?_
                rintro e wb ⟨rfl, hb1, hf1, _⟩
                have h10 := H9.out.next hb1 hf1
                have HRA := Lib.hid (HR9.out.fr hf1 HRW.out)
                rw [Int.toNat_natCast, ← wrB_append, ← wrB_append, ← HRD.out, List.append_assoc, ← HT.out] at h10
                have HCM : Hid (cnt (wrB s (Z ++ runB p (((rests c.ord c.smp).drop off).take (t + 1)))) ≤ 70000000000406 + 4 * (k + 1) + 100016 * (off + (t + 1))) := by
                  have h1 := HCN.out
                  have h2 := HRB.out
                  show _ ≤ _
                  rw [HT.out, ← List.append_assoc, wrB_append _ (_ ++ _), cnt_wrB _ (restB p x), h2]
                  omega
                have H10 := Lib.hid h10
                clear hb1 hf1 h10 H9 HR9 HT HRD HRB
                go_wp2_with fail
                go_roundw
                case rel => exact ⟨t + 1, HTK.out, by go_num, H10.out, HRA.out, HCM.out⟩
                case measure =>
                  have := HTK.out
                  simp [intOf]; omega
              · obtain rfl : t = pl := by omega
                rw [HTE.out] at HG HCN
                clear HFW HSMX HSM
                have HKN2 := Lib.hid hkn
                have hge : (0 : Int) ≤ (t : Int) := by omega
                have hk4 := HOff.out.2.1
                by_cases hcc : cp = t
                · have HZ : Hid (c.smp.length - c.ord - off = t) := by show _ = _; omega
                  go_wp2_with fail
                  go_roundw
                  case rel =>
                    rw [HNN.out]
                    refine ⟨k + 1, a, 0, HKN2.out, by go_num, ?_, ?_, ?_, HG.out, HR.out, ?_⟩
                    · rw [HPS.out]; congr 1; omega
                    · have h1 := HZ.out; rw [HPS.out]; omega
                    · have h1 := HZ.out; rw [HPS.out]; omega
                    · have h1 := HCN.out
                      rw [HPS.out]; omega
                  case measure =>
                    have := HKN2.out
                    simp [intOf]; omega
                · go_wp2_with fail
                  go_roundw
                  case rel =>
                    rw [HNN.out]
                    refine ⟨k + 1, a + t, cp - t, HKN2.out, by go_num, ?_, ?_, ?_, HG.out, HR.out, ?_⟩
                    · rw [HPS.out]; congr 1; omega
                    · have h1 := HAA.out; rw [HPS.out]; omega
                    · rw [HPS.out]; omega
                    · have h1 := HCN.out
                      rw [HPS.out]; omega
                  case measure =>
                    have := HKN2.out
                    simp [intOf]; omega
        · obtain rfl : k = c.pars.length := by omega
          have HEE : Hid (c.bits bps = Y ++ partsB c.n c.ord (rests c.ord c.smp) c.pars c.pars.length) := by
            show _ = _
            rw [HE.out, ← HYE.out, ← HXE.out]
            unfold PSub.restBits
            simp only [List.append_assoc]
          go_wp2_with fail
          go_end0
          rw [HEE.out]
          exact ⟨rfl, HG.out.sw, HG.out.fr⟩
/-- (*writer).given. -/
theorem specGiven (c : PSub) (B W P pcap g cap bps : Nat) (s : List UInt8 × List Bool) (w : World) (h : SW B W s w) (hs : IntAt g c.smp w) (hp : IntAt P (c.pars.map Int.ofNat) w) (hok : c.Ok) (hb : bps ≤ 62) (hcap : c.smp.length ≤ cap) (hl : cnt s ≤ 70000000000000) :
    Calls Tryz.prog 43 #[.pointer (some ⟨W, 0, none⟩), c.sv P pcap g cap, .int .i64 bps] w fun e w' => e = .returned (.tuple #[]) ∧ SW B W (wrB s (c.bits bps)) w' ∧ Fr B [W] w w' := by
  by_cases hk : c.kind ≤ 1
  · exact specGiven01 c B W P pcap g cap bps s w h hs hp hok hk hb hl
  · exact specGiven2 c B W P pcap g cap bps s w h hs hp hok (by have := hok.kind; omega) hb hcap hl
end Go.Proofs.YtemcpcgcnjahjaaGreatDoor
