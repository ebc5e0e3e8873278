/-
  WriteFrame.
-/
import Derived.Test.YtemcpcgcnjahjaaGreatDoorWFrame
namespace Go.Proofs.YtemcpcgcnjahjaaGreatDoor
open Go.RowKit

/-- What WriteFrame comes to. -/
def FrameWritten (f : PFrame) (num F E ST IN b d B : Nat) (pre : List UInt8) (w : World) (e : Ending) (w' : World) : Prop :=
  e = .returned .nilIface ∧ ∃ x1 x2 x3 : Int, EncAt E ST IN b d f.subs.length x1 x2 x3 ((num + if f.varies then f.size else 1 : Nat) : Int) w' ∧ (∃ nx, nx < 64 ∧ Dig d nx w') ∧ Buf B b (pre ++ f.bytes num) w' ∧ Fr B [E, F, d, b] w w'

set_option maxRecDepth 100000 in
set_option maxHeartbeats 8000000 in
/-- (*Encoder).WriteFrame. -/
theorem writeFrame (f : PFrame) (num0 : Int) (num F Y ycap E ST IN b d B : Nat) (x1 x2 x3 : Int) (pre : List UInt8) (w : World) (hpre : pre.length ≤ 17592186044416)
    (hB : 0 < B) (hBw : B ≤ w.heap.size) (hBE : B ≤ E) (hBF : B ≤ F) (hBd : B ≤ d) (hN : NCh w) (hF : FrameAt f num0 F Y ycap w) (hE : EncAt E ST IN b d f.subs.length x1 x2 x3 num w) (hD : ∃ nx, nx < 64 ∧ Dig d nx w) (hb : Buf B b pre w) (hok : f.Ok) (hnum : num < 2048) :
    Calls Tryz.prog 13 #[.pointer (some ⟨E, 0, none⟩), .pointer (some ⟨F, 0, none⟩)] w (FrameWritten f num F E ST IN b d B pre w) := by
  have n1 := hok.some
  have n8 := hok.few
  have s1 := hok.size1
  have s2 := hok.size2
  have e0 := Lib.cell_of_heap hE.enc 0
  have t0 := Lib.cell_of_heap hE.str 0
  obtain ⟨ic, hI, hI5⟩ := hE.inf
  have i5 := Lib.cell_of_heap hI 5
  rw [hI5] at i5
  have f6 := Lib.cell_of_heap hF.head 6
  have f3 := Lib.cell_of_heap hF.head 3
  simp only [List.getElem?_toArray, List.getElem?_cons_zero, List.getElem?_cons_succ] at e0 t0 f6 f3
  obtain ⟨a0, cy, R, P, g, cap, pcap, v4, v5, v6, hs0⟩ := hF.get 0 n1
  have cs9 := Lib.cell_of_heap hs0.sub 9
  simp only [List.getElem?_toArray, List.getElem?_cons_zero, List.getElem?_cons_succ] at cs9
  rw [hok.len _ (List.getElem_mem _)] at cs9
  have HF := Lib.hid hF; clear hF
  have HE := Lib.hid hE; clear hE
  have HD := Lib.hid hD; clear hD
  have HBU := Lib.hid hb; clear hb
  have HOK := Lib.hid hok; clear hok
  have HN := Lib.hid hN; clear hN
  have HPRE := Lib.hid hpre; clear hpre
  clear hI hI5 hs0
  go_enter_defers Tryz.func13, Tryz.ntmps13
  go_wp2_with fail
  clear cy cs9
  go_loop [55] (fun j => ∃ i : Nat, i ≤ f.subs.length ∧ j = .int .i64 i) (fun j => f.subs.length - (intOf j).toNat)
  case atStart => exact ⟨0, by omega, rfl⟩
  case round =>
    obtain ⟨i, hi, rfl⟩ := hrel
    by_cases hin : i < f.subs.length
    · obtain ⟨a, cy, R, P, g, cap, pcap, v4, v5, v6, hs⟩ := HF.out.get i hin
      have c8 := Lib.cell_of_heap hs.sub 8
      simp only [List.getElem?_toArray, List.getElem?_cons_zero, List.getElem?_cons_succ] at c8
      rw [HOK.out.len _ (List.getElem_mem hin)] at c8
      clear hs
      go_wp2_with fail
      go_round
      case rel => exact ⟨i + 1, by omega, by go_num⟩
      case measure => simp [intOf]; omega
    · obtain rfl : i = f.subs.length := by omega
      go_wp2_with fail
      refine (count f.assign (by have := HOK.out.assign; omega) w HN.out).mono ?_
      rintro e w ⟨rfl, rfl⟩
      have has := HOK.out.assign
      go_wp2_with fail
      clear i5 t0 e0 f6 f3
      refine (newIBM w).mono ?_
      rintro e w1 ⟨D, T, rfl, hDb, hTb, hD16, hk1⟩
      have H1 := Lib.hid (And.intro hDb (And.intro hTb (And.intro hD16 hk1))); clear hDb hTb hD16 hk1
      have e1 := Lib.cell_of_heap (H1.out.2.2.2.at HE.out.enc (by simp)) 1
      simp only [List.getElem?_toArray, List.getElem?_cons_zero, List.getElem?_cons_succ] at e1
      go_wp2_with fail
      clear e1
      have hV0 := Lib.cell_of_heap (heap_alloc_new w1 (.cells #[Value.iface 241 (Value.pointer (some { block := D, off := 0 })), Value.iface 62 (Value.pointer (some { block := b, off := 0 }))] 100)) 0
      have hV1 := Lib.cell_of_heap (heap_alloc_new w1 (.cells #[Value.iface 241 (Value.pointer (some { block := D, off := 0 })), Value.iface 62 (Value.pointer (some { block := b, off := 0 }))] 100)) 1
      refine (multi2 _ D b 2 _ hV0 hV1).mono ?_
      clear hV0 hV1
      rintro e w2 ⟨M, rfl, hM, hMo, hk2⟩
      obtain ⟨R, rc, hR, hMA⟩ := hMo.at (by simp)
      have hWS := wsStart hBw hBE hBF hBd HF.out HE.out HD.out HBU.out H1.out.1 H1.out.2.1 H1.out.2.2.1 H1.out.2.2.2 _ hM hR hMA hMo hk2
      have H2 := Lib.hid hWS
      clear hM hMo hk2 hR hMA hWS
      have e8 := Lib.cell_of_heap H2.out.enc.enc 8
      have f5 := Lib.cell_of_heap H2.out.frame.head 5
      simp only [List.getElem?_toArray, List.getElem?_cons_zero, List.getElem?_cons_succ] at e8 f5
      have z5 := Lib.frozen_of_heap H2.out.frame.head 5
      go_upto_region 16 with fail
      clear e8 f5 z5
      have H3 := Lib.hid (H2.out.setF (v := num))
      generalize w2.setCell ⟨F, 5, none⟩ (.int .u64 num) = w3 at H3 ⊢
      have f0 := Lib.cell_of_heap H3.out.frame.head 0
      have e8 := Lib.cell_of_heap H3.out.enc.enc 8
      simp only [List.getElem?_toArray, List.getElem?_cons_zero, List.getElem?_cons_succ] at e8 f0
      have z8 := Lib.frozen_of_heap H3.out.enc.enc 8
      go_upto_if 97 with fail
      go_cut [] from 97 (fun wx => WS f num F Y ycap E ST IN b d B D T M R rc pre w x1 x2 x3 ((num + if f.varies then f.size else 1 : Nat) : Int) wx)
      case first =>
        cases hv : f.varies
        · rw [hv] at f0
          have HV := Lib.hid hv
          clear hv
          go_wp2_with fail
          go_meet
          case rel => exact H3.out.setE 8 _ (by rw [HV.out]; simp)
        · rw [hv] at f0
          have HV := Lib.hid hv
          clear hv
          go_wp2_with fail
          go_meet
          case rel => exact H3.out.setE 8 _ (by rw [HV.out]; simp)
      case rest =>
        have H4 := Lib.hid hcut
        clear hcut H3 H2 f0 e8 z8
        generalize hcu : ((num + if f.varies then f.size else 1 : Nat) : Int) = cur at H4
        have HCU := Lib.hid hcu
        clear hcu
        have e7 := Lib.cell_of_heap H4.out.enc.enc 7
        simp only [List.getElem?_toArray, List.getElem?_cons_zero, List.getElem?_cons_succ] at e7
        have z7 := Lib.frozen_of_heap H4.out.enc.enc 7
        go_upto_region 20 with fail
        clear e7 z7
        have H5 := Lib.hid (H4.out.setE (y1 := x1) (y2 := x2) (y3 := IntKind.u64.wrap (x3 + (f.size : Int))) (y4 := cur) 7 (.int .u64 (IntKind.u64.wrap (x3 + (f.size : Int)))) rfl)
        generalize wc.setCell ⟨E, 7, none⟩ (.int .u64 (IntKind.u64.wrap (x3 + (f.size : Int)))) = w5 at H5 ⊢
        generalize IntKind.u64.wrap (x3 + (f.size : Int)) = x3' at H5 ⊢
        clear H4
        have e2 := Lib.cell_of_heap H5.out.enc.enc 2
        simp only [List.getElem?_toArray, List.getElem?_cons_zero, List.getElem?_cons_succ] at e2
        have z2 := Lib.frozen_of_heap H5.out.enc.enc 2
        go_upto_region 21 with fail
        go_cut [137] from 125 (fun u wx => (∃ q : Bool, u = .bool q) ∧ w5 = wx)
        case first =>
          go_wp2_with fail
          all_goals
            go_meet
            case rel => exact ⟨⟨_, rfl⟩, rfl⟩
        obtain ⟨⟨q1, rfl⟩, rfl⟩ := hcut
        go_upto_if 137 with fail
        go_cut [] from 125 (fun wx => ∃ y1 : Int, WS f num F Y ycap E ST IN b d B D T M R rc pre w y1 x2 x3' cur wx)
        case first =>
          go_wp2_with fail
          all_goals
            go_meet
            case rel => first | exact ⟨_, H5.out⟩ | exact ⟨_, H5.out.setE 2 _ rfl⟩
        case rest =>
          obtain ⟨y1, hcut⟩ := hcut
          have H6 := Lib.hid hcut
          clear hcut H5 e2 z2
          have e3 := Lib.cell_of_heap H6.out.enc.enc 3
          simp only [List.getElem?_toArray, List.getElem?_cons_zero, List.getElem?_cons_succ] at e3
          have z3 := Lib.frozen_of_heap H6.out.enc.enc 3
          go_upto_region 23 with fail
          go_cut [154] from 142 (fun u wx => (∃ q : Bool, u = .bool q) ∧ wc = wx)
          case first =>
            go_wp2_with fail
            all_goals
              go_meet
              case rel => exact ⟨⟨_, rfl⟩, rfl⟩
          obtain ⟨⟨q2, rfl⟩, rfl⟩ := hcut
          go_upto_if 154 with fail
          go_cut [] from 142 (fun wx => ∃ y2 : Int, WS f num F Y ycap E ST IN b d B D T M R rc pre w y1 y2 x3' cur wx)
          case first =>
            go_wp2_with fail
            all_goals
              go_meet
              case rel => first | exact ⟨_, H6.out⟩ | exact ⟨_, H6.out.setE 3 _ rfl⟩
          case rest =>
            obtain ⟨y2, hcut⟩ := hcut
            have H7 := Lib.hid hcut
            clear hcut H6 e3 z3
            have e6 := Lib.cell_of_heap H7.out.enc.enc 6
            simp only [List.getElem?_toArray, List.getElem?_cons_zero, List.getElem?_cons_succ] at e6
            go_wp2_with fail
            refine (hash f num F Y ycap d f.size wc H7.out.frame H7.out.dig HOK.out.len n1 n8 s2 HOK.out.bits).mono ?_
            rintro e w6 ⟨rfl, hdg, hkd⟩
            have H8 := Lib.hid (H7.out.kpd hkd hdg)
            clear hdg hkd e6 H7
            have f0 := Lib.cell_of_heap H8.out.frame.head 0
            have f1 := Lib.cell_of_heap H8.out.frame.head 1
            have f2 := Lib.cell_of_heap H8.out.frame.head 2
            have f3 := Lib.cell_of_heap H8.out.frame.head 3
            have f4 := Lib.cell_of_heap H8.out.frame.head 4
            have f5 := Lib.cell_of_heap H8.out.frame.head 5
            simp only [List.getElem?_toArray, List.getElem?_cons_zero, List.getElem?_cons_succ] at f0 f1 f2 f3 f4 f5
            go_wp2_with fail
            clear f0 f1 f2 f3 f4 f5
            have HN6 := Lib.hid (HN.out.fr H8.out.fr hB)
            refine (encHeader HPRE.out _ (!f.varies) f.size f.rate f.assign f.bits num w6 hB HN6.out H8.out.q H8.out.mo s2 s1 HOK.out.rate (by omega) HOK.out.bits hnum).mono ?_
            rintro e w7 ⟨rfl, hI, hfr⟩
            have HI7 : Hid ((snk16 B D T b M R rc pre HPRE.out).I w7 (f.head num)) := hI
            have HE7 := Lib.hid (H8.out.enc.frT hfr H8.out.q.ty (by decide))
            have HF7 := Lib.hid (H8.out.frame.frT hfr H8.out.q.ty (by decide))
            have HD7 := Lib.hid (Dig.frT H8.out.dig hfr H8.out.q.ty (by decide))
            have HR7 : Hid (Fr B [E, F, d, b] w w7) := H8.out.fr.after hfr (by
              intro i hi hm
              have h1 := H8.out.new
              simp only [List.mem_cons, List.not_mem_nil, or_false] at hm ⊢
              omega)
            clear hI hfr
            have f3 := Lib.cell_of_heap HF7.out.head 3
            simp only [List.getElem?_toArray, List.getElem?_cons_zero, List.getElem?_cons_succ] at f3
            go_wp2_with fail
            refine (decorr F f.assign w7 f3 (by omega)).mono ?_
            rintro e w7 ⟨rfl, rfl⟩
            clear f3
            go_wp2_with fail
            refine (newWriter _ _ _).mono ?_
            rintro e w8 ⟨rfl, hw8⟩
            have HB8 := Lib.hid (bw16Start HI7.out)
            rw [← hw8] at HB8
            have hBB := ((snk16 B D T b M R rc pre HPRE.out).live HI7.out).1
            have hk8 : Kp [] w7 w8 := hw8 ▸ Kp.alloc [] _ _
            have hf8 : Fr B [] w7 w8 := hk8.fr hBB (by simp)
            have HE8 := Lib.hid (HE7.out.fr hf8 (by simp) (by simp) (by simp))
            have HF8 := Lib.hid (HF7.out.frT hf8 (Ts := []) (fun _ h => by simp at h) (by simp))
            have HD8 := Lib.hid (Dig.frT HD7.out hf8 (Ts := []) (fun _ h => by simp at h) (by simp))
            have HR8 : Hid (Fr B [E, F, d, b] w w8) := HR7.out.trans (hf8.mono (Nat.le_refl _) (by simp))
            have HS8 : Hid (w.heap.size ≤ w7.heap.size) := HR7.out.size
            have HNW := Lib.hid H8.out.new
            clear hk8 hf8 HE7 HF7 HD7 HI7 hw8 H8 HN6 hBB HR7 HE HF HD HBU H1
            have f6 := Lib.cell_of_heap HF8.out.head 6
            simp only [List.getElem?_toArray, List.getElem?_cons_zero, List.getElem?_cons_succ] at f6
            have HT8 := Lib.hid (bw16_ty HB8.out)
            have hb64 : f.bits ≤ 64 := by have := HOK.out.bits; unfold BpsOk at this; omega
            go_wp2_with fail
            clear f6
            generalize hWe : w7.heap.size = W at HB8 HT8 HS8
            go_loopw [185] (fun j wx => ∃ c : Nat, c ≤ f.subs.length ∧ j = .int .i64 c ∧ BW (snk16 B D T b M R rc pre HPRE.out) W (wrB (f.head num, []) ((f.subs.take c).flatMap (fun s => s.bits f.bits))) wx ∧ Fr B (W :: [M, R, D, T, b]) w8 wx) (fun j _ => f.subs.length - (intOf j).toNat)
            case atStart => exact ⟨0, by omega, rfl, by simpa [wrB_nil] using HB8.out, Fr.refl _ _ _⟩
            case round =>
              clear HB8
              obtain ⟨c, hc, rfl, hbw, hfr⟩ := hrel
              have HBW := Lib.hid hbw
              have HFR := Lib.hid hfr
              clear hbw hfr
              have HFX := Lib.hid (HF8.out.frT HFR.out HT8.out (by decide))
              have HEX := Lib.hid (HE8.out.frT HFR.out HT8.out (by decide))
              by_cases hcn : c < f.subs.length
              · obtain ⟨a, cy, R', P', g', cap', pcap', v4', v5', v6', hs⟩ := HFX.out.get c hcn
                have HSA := Lib.hid hs
                clear hs
                have f0 := Lib.cell_of_heap HFX.out.head 0
                have f1 := Lib.cell_of_heap HFX.out.head 1
                have f2 := Lib.cell_of_heap HFX.out.head 2
                have f3 := Lib.cell_of_heap HFX.out.head 3
                have f4 := Lib.cell_of_heap HFX.out.head 4
                have f5 := Lib.cell_of_heap HFX.out.head 5
                have e9 := Lib.cell_of_heap HEX.out.enc 9
                simp only [List.getElem?_toArray, List.getElem?_cons_zero, List.getElem?_cons_succ] at f0 f1 f2 f3 f4 f5 e9
                have h8 : ((f.assign : Int) == 8) = false := by simp; omega
                have h9 : ((f.assign : Int) == 9) = false := by simp; omega
                have h10 : ((f.assign : Int) == 10) = false := by simp; omega
                have hlen := Lib.hid (HOK.out.len _ (List.getElem_mem hcn))
                have HTK := Lib.hid (f.body_take c hcn)
                have HCN := Lib.hid (f.cnt_le num c HOK.out)
                have hES := encSub (snk16 B D T b M R rc pre HPRE.out) W f.subs[c] a R' P' g' cap' pcap' v4' v5' v6' f.bits _ wr HBW.out HSA.out (HSA.out.out ((bw16_ty HBW.out).noData (by decide))) (HOK.out.subs _ (List.getElem_mem hcn)) hb64 (by have := HCN.out; omega) (.bool (!f.varies)) (.int .u32 f.rate) (.int .u8 f.assign) (.int .u8 f.bits) (.int .u64 num)
                rw [hlen.out] at hES
                have HES := Lib.hid hES
                clear hES
                go_wp2_with fail
                refine HES.out.mono ?_
                rintro e wy ⟨rfl, hb1, hf1⟩
                rw [← wrB_append, ← HTK.out] at hb1
                have HB1 := Lib.hid hb1
                have HF1 : Hid (Fr B (W :: [M, R, D, T, b]) w8 wy) := HFR.out.trans hf1
                clear hb1 hf1 f0 f1 f2 f3 f4 f5 e9 h8 h9 h10 cy HES
                go_wp2_with fail
                go_roundw
                case rel => exact ⟨c + 1, by omega, by go_num, HB1.out, HF1.out⟩
                case measure => simp [intOf]; omega
              · obtain rfl : c = f.subs.length := by omega
                have HCN := Lib.hid (f.cnt_le num f.subs.length HOK.out)
                rw [List.take_length] at HBW HCN
                change Hid (BW _ _ (wrB (f.head num, []) f.body) _) at HBW
                change Hid (cnt (wrB (f.head num, []) f.body) ≤ _) at HCN
                go_wp2_with fail
                refine (walign (snk16 B D T b M R rc pre HPRE.out) W _ _ HBW.out (by have := HCN.out; omega)).mono ?_
                rintro e wy ⟨⟨nn, rfl⟩, hb1, hf1⟩
                have HB1 := Lib.hid hb1
                have HF1 : Hid (Fr B (W :: [M, R, D, T, b]) w8 wy) := HFR.out.trans hf1
                clear hb1 hf1 HFX HEX
                have HQ : Hid (Q16 B D T b M R rc pre (f.front num) (f.front num) wy) := HB1.out.sink
                have HFL : Hid ((f.front num).length ≤ 2000000000) := by
                  have h1 := cnt_wrB (wrB (f.head num, []) f.body) (padB (wrB (f.head num, []) f.body))
                  have h2 : (padB (wrB (f.head num, []) f.body)).length ≤ 8 := by
                    unfold padB; split <;> simp
                  have h3 := HCN.out
                  show List.length (wrB _ _).1 ≤ _
                  unfold cnt at h1 h3
                  omega
                have HFX := Lib.hid (HF8.out.frT HF1.out HT8.out (by decide))
                have HEX := Lib.hid (HE8.out.frT HF1.out HT8.out (by decide))
                have hl8 := look_sum16
                have ha8 := ahead_sum16
                have he8 := enter187
                go_wp2_with fail
                refine (sum16 _ _ _ _ HQ.out.2.2.1).mono ?_
                clear hl8 ha8 he8
                rintro e wy ⟨rfl, rfl⟩
                have e1 := Lib.cell_of_heap HEX.out.enc 1
                simp only [List.getElem?_toArray, List.getElem?_cons_zero, List.getElem?_cons_succ] at e1
                go_wp2_with fail
                refine (numWrite16 (bufSnk B b pre HPRE.out) _ (f.front num) wy ⟨HQ.out.1.1, HQ.out.2.2.2⟩ (crc16 (f.front num)).isLt (by have := HFL.out; omega)).mono ?_
                rintro e wz ⟨rfl, hI, hfz⟩
                have HIZ : Hid ((bufSnk B b pre HPRE.out).I wz (f.bytes num)) := hI
                have HFZ := Lib.hid hfz
                obtain ⟨bc, hbc⟩ := HQ.out.2.2.2.block
                have HTB := Lib.hid (one_ty hbc)
                clear hI hfz e1 hbc
                have HFY := Lib.hid (HFX.out.frT HFZ.out HTB.out (by decide))
                go_wp2_with fail
                have f3 := Lib.cell_of_heap HFY.out.head 3
                simp only [List.getElem?_toArray, List.getElem?_cons_zero, List.getElem?_cons_succ] at f3
                refine leaves_cons (f := 38) (args := #[.pointer (some ⟨F, 0, none⟩)]) (by simp) (by simp [go_sem]) ?_
                refine (corrD F f.assign .returning _ f3 (by omega)).mono ?_
                rintro e u' w'' ⟨rfl, rfl, rfl⟩
                refine ⟨_, results_tmp rfl _ _ _, rfl, y1, y2, x3', ?_, ?_, HIZ.out.2, ?_⟩
                · rw [HCU.out]; exact HEX.out.frT HFZ.out HTB.out (by decide)
                · exact Dig.frT (Dig.frT HD8.out HF1.out HT8.out (by decide)) HFZ.out HTB.out (by decide)
                · refine (HR8.out.after HF1.out (fun i hi hm => ?_)).trans (HFZ.out.mono (Nat.le_refl _) (fun i _ hm => by
                    simp only [bufSnk, List.mem_cons, List.not_mem_nil, or_false] at hm; simp [hm]))
                  have h1 := HNW.out
                  have h2 := HS8.out
                  simp only [List.mem_cons, List.not_mem_nil, or_false] at hm ⊢
                  omega

end Go.Proofs.YtemcpcgcnjahjaaGreatDoor
