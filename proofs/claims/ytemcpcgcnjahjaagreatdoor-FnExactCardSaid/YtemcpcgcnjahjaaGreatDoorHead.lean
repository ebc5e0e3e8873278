/-
  The header of a frame.
-/
import Derived.Test.YtemcpcgcnjahjaaGreatDoorHBlock
import Derived.Test.YtemcpcgcnjahjaaGreatDoorNums
import Derived.Defers
namespace Go.Proofs.YtemcpcgcnjahjaaGreatDoor
open Go.RowKit

theorem NCh.fr {B : Nat} {S : List Nat} {w w' : World} (h : NCh w) (k : Fr B S w w') (hB : 0 < B) : NCh w' := fun i hi => by
  rw [World.cell?_of_block (k.below 0 hB), h i hi]

set_option maxHeartbeats 400000 in
/-- Align where no bits wait. -/
theorem alignNone (W : Nat) (w : World) (v x : Value) (h : w.heap[W]? = some (.cells #[v, x, .int .u8 0] 172 (0, 0))) :
    Calls Tryz.prog 29 #[.pointer (some ⟨W, 0, none⟩)] w fun e w' => e = .returned (.tuple #[.int .u8 0, .nilIface]) ∧ w' = w := by
  have c2 := Lib.cell_of_heap h 2
  simp only [List.getElem?_toArray, List.getElem?_cons_zero, List.getElem?_cons_succ] at c2
  clear h
  go_enter Tryz.func29, Tryz.ntmps29
  go_wp2_with fail
  go_ret2
  exact ⟨rfl, rfl⟩

set_option maxHeartbeats 400000 in
/-- Close, deferred, where no bits wait. -/
theorem closeNoneD (W : Nat) (u : FrameMode) (w : World) (v x : Value) (h : w.heap[W]? = some (.cells #[v, x, .int .u8 0] 172 (0, 0))) :
    CallsD Tryz.prog 62 #[.pointer (some ⟨W, 0, none⟩)] u w fun e u' w' => u' = u ∧ (e = .returned .nilIface ∧ w' = w) := by
  have H := Lib.hid h; clear h
  go_enter_d Tryz.func62, Tryz.ntmps62
  go_wp2_with fail
  refine (alignNone W w v x H.out).mono ?_
  rintro e w' ⟨rfl, rfl⟩
  go_wp2_with fail
  go_ret
  exact ⟨rfl, rfl⟩

theorem look_sum8 (a : Addr) (w : World) : (method 429 261 (.pointer (some a)) "Sum8").run Tryz.prog w = .ok (194, .pointer (some a)) w := by kernel_rfl
theorem ahead_sum8 (a : Addr) (w : World) : (nilAhead 429 261 (.pointer (some a)) "Sum8").run Tryz.prog w = .ok (some false) w := by kernel_rfl
theorem enter194 (args : Array Value) (w : World) : (callFunc 194 args).run Tryz.prog w = .ok (.enter 194 args) w := Go.Proofs.enters_of Tryz.func194 (by kernel_rfl) rfl args w

/-- The bits of a frame's header ahead of its number, and behind it. -/
def hbits1 (hf : Bool) (bs : Nat) (sr : Int) (ch : Nat) (bps : Int) : List Bool :=
  bitsN 16382 14 ++ bitsN 0 1 ++ [!hf] ++ bitsN (sizeCode bs) 4 ++ bitsN (rateCode sr) 4 ++ bitsN ch 4 ++ bitsN (bpsCode bps) 3 ++ bitsN 0 1
def hbits2 (bs : Nat) (sr : Int) : List Bool := bitsN ((bs : Int) - 1) (sizeTail bs) ++ bitsN (rateTail sr) (rateTailN sr)
/-- The bytes of a frame's header ahead of its sum. -/
def headB (hf : Bool) (bs : Nat) (sr : Int) (ch : Nat) (bps : Int) (num : Nat) : List UInt8 :=
  (wrB ((wrB ([], []) (hbits1 hf bs sr ch bps)).1 ++ codedB num, []) (hbits2 bs sr)).1

/-- The walk over a header, between its calls. -/
def HS {B : Nat} (σ : Snk B) (W H : Nat) (hc : Array Value) (wA : World) (s : List UInt8 × List Bool) (w : World) : Prop :=
  BW σ W s w ∧ Fr B (W :: σ.S) wA w ∧ w.heap[H]? = some (.cells hc 69 (0, 0))

theorem HS.next {B : Nat} {σ : Snk B} {W H : Nat} {hc : Array Value} {wA w w' : World} {s s' : List UInt8 × List Bool} (h : HS σ W H hc wA s w) (hn : H ∉ W :: σ.S) (hb : BW σ W s' w') (hf : Fr B (W :: σ.S) w w') : HS σ W H hc wA s' w' :=
  ⟨hb, h.2.1.trans hf, hf.at h.2.2 hn (by decide)⟩

theorem MultiOf.kp {B M : Nat} {xs : List Value} {w w' : World} (h : MultiOf B M xs w) (k : Kp [] w w') : MultiOf B M xs w' := by
  obtain ⟨v, hM, hown⟩ := h
  exact ⟨v, k.at hM (by simp), ownsRow_kp hown k (fun _ _ => by simp)⟩

/-- The writer of a header, as it is made. -/
theorem hdrStart {B D T b M R rc d t m r rd : Nat} {pre : List UInt8} (hpre : pre.length ≤ 17592186044416) {hc : Array Value} {w w1 w2 : World} (h : Q16 B D T b M R rc pre [] [] w)
    (hd : (w.alloc (.cells hc 69 (0, 0))).heap.size ≤ d) (ht : (w.alloc (.cells hc 69 (0, 0))).heap.size ≤ t) (hD : D8 d t 0#8 w1) (k1 : Kp [] (w.alloc (.cells hc 69 (0, 0))) w1)
    (V : Array Value) (hm : (w1.alloc (.cells V 100 (0, 0))).heap.size ≤ m) (hr : (w1.alloc (.cells V 100 (0, 0))).heap.size ≤ r)
    (hM : MAt m r rd [.iface 261 (.pointer (some ⟨d, 0, none⟩)), .iface 241 (.pointer (some ⟨D, 0, none⟩)), .iface 62 (.pointer (some ⟨b, 0, none⟩))] w2) (k2 : Kp [] (w1.alloc (.cells V 100 (0, 0))) w2) :
    HS (snk8 B D T b M R rc d t m r rd pre hpre) w2.heap.size w.heap.size hc (w2.alloc (.cells #[(snk8 B D T b M R rc d t m r rd pre hpre).v, .int .u8 0, .int .u8 0] 172 (0, 0))) ([], []) (w2.alloc (.cells #[(snk8 B D T b M R rc d t m r rd pre hpre).v, .int .u8 0, .int .u8 0] 172 (0, 0))) ∧
    w.heap.size ∉ w2.heap.size :: [m, r, d, t, M, R, D, T, b] ∧ Kp [] w w2 ∧ ∀ i, i < w.heap.size → i ∈ w2.heap.size :: [m, r, d, t, M, R, D, T, b] → i ∈ [M, R, D, T, b] := by
  have s1 := k1.size
  have s2 := k2.size
  simp only [World.size_alloc] at hd ht s1 hm hr s2
  have hB := h.live.1
  have ka : Kp [] w w1 := (Kp.alloc _ _ _).trans k1
  have kb : Kp [] w w2 := (ka.trans (Kp.alloc _ _ _)).trans k2
  have hq : Q16 B D T b M R rc pre [] [] w2 := h.kp kb (fun k hk => by simp at hk)
  have hD2 : D8 d t (crc8 []) w2 := hD.kp ((Kp.alloc [] _ _).trans k2) (by simp) (by simp)
  have h8 : Q8 B D T b M R rc d t m r rd pre [] [] [] w2 := ⟨⟨by omega, by omega, by omega, by omega⟩, hM, hD2, hq⟩
  have hlive := h8.live
  have hn : w2.heap.size ∉ [m, r, d, t, M, R, D, T, b] := fun hm => by have := (hlive.2 _ hm).2.1; omega
  refine ⟨⟨⟨heap_alloc_new _ _, by simp, by omega, hn, h8.kp (Kp.alloc [] _ _) (fun k hk => by simp at hk)⟩, Fr.refl _ _ _, ?_⟩, ?_, kb, ?_⟩
  · exact heap_alloc (((Kp.alloc [] _ _).trans k2).at (k1.at (heap_alloc_new _ _) (by simp)) (by simp))
  · have hl := h.live.2
    intro hm
    simp only [List.mem_cons, List.not_mem_nil, or_false] at hm
    rcases hm with h0 | h0 | h0 | h0 | h0 | h0
    · omega
    · omega
    · omega
    · omega
    · omega
    · have := (hl w.heap.size (by simpa using h0)).2.1; omega
  · intro i hi hm
    simp only [List.mem_cons, List.not_mem_nil, or_false] at hm
    rcases hm with h0 | h0 | h0 | h0 | h0 | h0
    · omega
    · omega
    · omega
    · omega
    · omega
    · simpa using h0

theorem wrB_whole (s : List UInt8 × List Bool) (l : List Bool) (h : (s.2.length + l.length) % 8 = 0) (h8 : s.2.length < 8) : (wrB s l).2 = [] := by
  have h1 := wrB_rest s l h8
  have h2 := cnt_wrB s l
  unfold cnt at h2
  exact List.eq_nil_of_length_eq_zero (by omega)
theorem wrB_whole' (s : List UInt8 × List Bool) (l : List Bool) (h : (s.2.length + l.length) % 8 = 0) (h8 : s.2.length < 8) : wrB s l = ((wrB s l).1, []) := by
  rw [← wrB_whole s l h h8]

theorem sizeTail_cases (x : Nat) : sizeTail x = 0 ∨ sizeTail x = 8 := by unfold sizeTail; split <;> simp
theorem rateTail_cases (x : Int) : rateTailN x = 0 ∨ (rateTailN x = 16 ∧ 0 ≤ rateTail x ∧ rateTail x < 65536) := by
  unfold rateTailN rateTail
  by_cases h : x = 12345
  · simp [h]
  · by_cases h2 : x = 655350
    · simp [h2]
    · simp [h, h2]

theorem headB_length (hf : Bool) (bs : Nat) (sr : Int) (ch : Nat) (bps : Int) (num : Nat) : (headB hf bs sr ch bps num).length ≤ 40 := by
  have h1 := wrB_len ([], []) (hbits1 hf bs sr ch bps)
  have h2 : (hbits1 hf bs sr ch bps).length = 32 := by simp [hbits1, bitsN_length]
  have h3 : (codedB num).length ≤ 2 := by unfold codedB; split <;> simp
  have h4 := wrB_len ((wrB ([], []) (hbits1 hf bs sr ch bps)).1 ++ codedB num, []) (hbits2 bs sr)
  have h5 : (hbits2 bs sr).length ≤ 24 := by
    have hr := rateTail_cases sr
    have hs := sizeTail_cases bs
    simp only [hbits2, List.length_append, bitsN_length]; omega
  have h6 := cnt_wrB ([], []) (hbits1 hf bs sr ch bps)
  simp only [cnt, List.length_nil, h2] at h6
  simp only [List.length_append, List.length_nil] at h4
  unfold headB

  simp only [List.length_nil] at h1
  omega

set_option maxRecDepth 100000 in
set_option maxHeartbeats 4000000 in
/-- encodeFrameHeader. -/
theorem encHeader {B D T b M R rc : Nat} {pre : List UInt8} (hpre : pre.length ≤ 17592186044416) (ev : Value) (hf : Bool) (bs : Nat) (sr : Int) (ch : Nat) (bps : Int) (num : Nat) (w : World) (hB : 0 < B) (hN : NCh w)
    (h : Q16 B D T b M R rc pre [] [] w) (hMO : MultiOf B M [.iface 241 (.pointer (some ⟨D, 0, none⟩)), .iface 62 (.pointer (some ⟨b, 0, none⟩))] w)
    (hbs : bs ≤ 256) (hbs0 : 1 ≤ bs) (hsr : RateOk sr) (hch : ch < 8) (hbps : BpsOk bps) (hnum : num < 2048) :
    Calls Tryz.prog 36 #[ev, (snk16 B D T b M R rc pre hpre).v, .agg #[.bool hf, .int .u16 bs, .int .u32 sr, .int .u8 ch, .int .u8 bps, .int .u64 num]] w fun e w' =>
      e = .returned .nilIface ∧ (snk16 B D T b M R rc pre hpre).I w' (headB hf bs sr ch bps num ++ [UInt8.ofNat (crc8 (headB hf bs sr ch bps num)).toNat]) ∧ Fr B [M, R, D, T, b] w w' := by
  have h := Lib.hid h
  have H := h
  have N := Lib.hid hN; clear hN
  have MO := Lib.hid hMO; clear hMO
  simp only [Snk.v, snk16]
  have hSR := Lib.hid hsr; clear hsr
  have hBP := Lib.hid hbps; clear hbps
  go_enter_defers Tryz.func36, Tryz.ntmps36
  go_wp2_with fail
  refine (newATM _).mono ?_
  rintro e w1 ⟨d, t, rfl, hd, ht, hD8, hk1⟩
  have HD := Lib.hid (And.intro hd (And.intro ht (And.intro hD8 hk1))); clear hd ht hD8 hk1
  go_wp2_with fail
  have hV0 := Lib.cell_of_heap (heap_alloc_new w1 (.cells #[Value.iface 261 (Value.pointer (some { block := d, off := 0 })), Value.iface 198 (Value.pointer (some { block := M, off := 0 }))] 100)) 0
  have hV1 := Lib.cell_of_heap (heap_alloc_new w1 (.cells #[Value.iface 261 (Value.pointer (some { block := d, off := 0 })), Value.iface 198 (Value.pointer (some { block := M, off := 0 }))] 100)) 1
  refine (multi3 _ d 2 B M _ _ _ hV0 hV1 (MO.out.kp (((Kp.alloc _ _ _).trans HD.out.2.2.2).trans (Kp.alloc _ _ _))) rfl rfl).mono ?_
  clear hV0 hV1
  rintro e w2 ⟨m, rfl, hm, hMo, hk2⟩
  obtain ⟨r, rd, hr, hMA⟩ := hMo.at (by simp)
  have hs := hdrStart hpre H.out HD.out.1 HD.out.2.1 HD.out.2.2.1 HD.out.2.2.2 _ hm hr hMA hk2
  have HM := Lib.hid hs; clear hm hMo hk2 hr hMA hs
  go_wp2_with fail
  refine (newWriter _ _ _).mono ?_
  rintro e w3 ⟨rfl, rfl⟩
  go_wp2_with fail
  refine (wbits (snk8 B D T b M R rc d t m r rd pre hpre) _ _ 14 _ _ HM.out.1.1 (by omega) (by omega) (by omega) (by omega) (by simp [cnt])).mono ?_
  rintro e w3 ⟨rfl, hb, hfr⟩
  have H3 := Lib.hid (HM.out.1.next HM.out.2.1 hb hfr); clear hb hfr
  go_wp2_with fail
  refine (wbits (snk8 B D T b M R rc d t m r rd pre hpre) _ _ 1 _ _ H3.out.1 (by omega) (by omega) (by omega) (by omega) (by simp only [cnt_wrB, bitsN_length]; simp [cnt])).mono ?_
  rintro e w4 ⟨rfl, hb, hfr⟩
  have H4 := Lib.hid (H3.out.next HM.out.2.1 hb hfr); clear hb hfr
  have c := Lib.cell_of_heap H4.out.2.2 0
  simp only [List.getElem?_toArray, List.getElem?_cons_zero] at c
  go_wp2_with fail
  clear c
  refine (wbool (snk8 B D T b M R rc d t m r rd pre hpre) _ _ _ _ H4.out.1 (by simp only [cnt_wrB, bitsN_length]; simp [cnt])).mono ?_
  rintro e w5 ⟨rfl, hb, hfr⟩
  have H5 := Lib.hid (H4.out.next HM.out.2.1 hb hfr); clear hb hfr
  have c := Lib.cell_of_heap H5.out.2.2 1
  simp only [List.getElem?_toArray, List.getElem?_cons_zero, List.getElem?_cons_succ] at c
  go_wp2_with fail
  clear c
  refine (hBlock (snk8 B D T b M R rc d t m r rd pre hpre) _ _ _ _ H5.out.1 hbs (by simp only [cnt_wrB, bitsN_length]; simp [cnt])).mono ?_
  rintro e w6 ⟨rfl, hb, hfr⟩
  have H6 := Lib.hid (H5.out.next HM.out.2.1 hb hfr); clear hb hfr
  have c := Lib.cell_of_heap H6.out.2.2 2
  simp only [List.getElem?_toArray, List.getElem?_cons_zero, List.getElem?_cons_succ] at c
  go_wp2_with fail
  clear c
  refine (hRate (snk8 B D T b M R rc d t m r rd pre hpre) _ _ _ _ H6.out.1 hSR.out (by simp only [cnt_wrB, bitsN_length]; simp [cnt])).mono ?_
  rintro e w7 ⟨rfl, hb, hfr⟩
  have H7 := Lib.hid (H6.out.next HM.out.2.1 hb hfr); clear hb hfr
  have N7 := Lib.hid (((N.out.fr (HM.out.2.2.1.fr (h.out.live.1) (fun _ hk => by simp at hk)) hB).fr (Kp.fr (Kp.alloc [] _ _) (Nat.le_trans (h.out.live.1) HM.out.2.2.1.size) (fun _ hk => by simp at hk)) hB).fr H7.out.2.1 hB)
  have c := Lib.cell_of_heap H7.out.2.2 3
  simp only [List.getElem?_toArray, List.getElem?_cons_zero, List.getElem?_cons_succ] at c
  go_wp2_with fail
  clear c
  refine (hChannels (snk8 B D T b M R rc d t m r rd pre hpre) _ _ hch _ _ H7.out.1 N7.out (by simp only [cnt_wrB, bitsN_length]; simp [cnt])).mono ?_
  rintro e w8 ⟨rfl, hb, hfr⟩
  have H8 := Lib.hid (H7.out.next HM.out.2.1 hb hfr); clear hb hfr
  have c := Lib.cell_of_heap H8.out.2.2 4
  simp only [List.getElem?_toArray, List.getElem?_cons_zero, List.getElem?_cons_succ] at c
  go_wp2_with fail
  clear c
  refine (hBps (snk8 B D T b M R rc d t m r rd pre hpre) _ _ _ _ H8.out.1 hBP.out (by simp only [cnt_wrB, bitsN_length]; simp [cnt])).mono ?_
  rintro e w9 ⟨rfl, hb, hfr⟩
  have H9 := Lib.hid (H8.out.next HM.out.2.1 hb hfr); clear hb hfr
  go_wp2_with fail
  refine (wbits (snk8 B D T b M R rc d t m r rd pre hpre) _ _ 1 _ _ H9.out.1 (by omega) (by omega) (by omega) (by omega) (by simp only [cnt_wrB, bitsN_length]; simp [cnt])).mono ?_
  rintro e wa ⟨rfl, hb, hfr⟩
  have HA := H9.out.next HM.out.2.1 hb hfr; clear hb hfr
  rw [← wrB_append, ← wrB_append, ← wrB_append, ← wrB_append, ← wrB_append, ← wrB_append, ← wrB_append] at HA
  change HS _ _ _ _ _ (wrB ([], []) (hbits1 hf bs sr ch bps)) _ at HA
  rw [wrB_whole' _ _ (by simp [hbits1, bitsN_length]) (by simp)] at HA
  replace HA := Lib.hid HA
  have c := Lib.cell_of_heap HA.out.2.2 5
  simp only [List.getElem?_toArray, List.getElem?_cons_zero, List.getElem?_cons_succ] at c
  go_wp2_with fail
  clear c
  have hO : Hid (((wrB ([], []) (hbits1 hf bs sr ch bps)).1 ++ codedB num).length ≤ 6) := by
    show List.length _ ≤ 6
    have h1 := cnt_wrB ([], []) (hbits1 hf bs sr ch bps)
    have h2 : (hbits1 hf bs sr ch bps).length = 32 := by simp [hbits1, bitsN_length]
    have h3 : (codedB num).length ≤ 2 := by unfold codedB; split <;> simp
    simp only [cnt, List.length_nil, h2] at h1
    rw [List.length_append]; omega
  refine (utfEncode (snk8 B D T b M R rc d t m r rd pre hpre) _ _ _ _ HA.out.1 hnum (by have := hO.out; rw [List.length_append] at this; omega)).mono ?_
  rintro e wb ⟨rfl, hb, hfr⟩
  have HB := Lib.hid (HA.out.next HM.out.2.1 hb hfr); clear hb hfr
  have hO2 : Hid (cnt ((wrB ([], []) (hbits1 hf bs sr ch bps)).1 ++ codedB num, []) ≤ 48) := by
    show cnt _ ≤ 48
    have := hO.out
    simp only [cnt, List.length_nil]; omega
  have HE : Hid (headB hf bs sr ch bps num = (wrB ((wrB ([], []) (hbits1 hf bs sr ch bps)).1 ++ codedB num, []) (hbits2 bs sr)).1) := rfl
  have HP : ∀ l : List Bool, l.length % 8 = 0 → Hid (padB (wrB ((wrB ([], []) (hbits1 hf bs sr ch bps)).1 ++ codedB num, []) l) = []) := by
    intro l hl
    show padB _ = []
    unfold padB
    rw [wrB_whole _ _ (by simpa using hl) (by simp)]
    rfl
  generalize (wrB ([], []) (hbits1 hf bs sr ch bps)).1 ++ codedB num = o at HB hO hO2 HE HP
  clear HA H9 H8 H7 H6 H5 H4 H3
  have c := Lib.cell_of_heap HB.out.2.2 1
  simp only [List.getElem?_toArray, List.getElem?_cons_zero, List.getElem?_cons_succ] at c
  have hw : IntKind.u16.wrap ((bs : Int) - 1) = (bs : Int) - 1 := by rw [IntKind.wrap_u16]; omega
  have hw2 : IntKind.u64.wrap ((bs : Int) - 1) = (bs : Int) - 1 := by rw [IntKind.wrap_u64]; omega
  have HT : Hid (hbits2 bs sr = bitsN ((bs : Int) - 1) (sizeTail bs) ++ bitsN (rateTail sr) (rateTailN sr)) := rfl
  rcases sizeTail_cases bs with z | z <;> rcases rateTail_cases sr with q | q <;> (try obtain ⟨q, q1, q2⟩ := q)
  case' inl.inl =>
    have HL : Hid ((hbits2 bs sr).length % 8 = 0) := by show _ = _; rw [HT.out, z, q]; rfl
    have HY := HB.out
    rw [show (o, []) = wrB (o, []) (hbits2 bs sr) by rw [HT.out, z, q]; rfl] at HY
    have HX := Lib.hid HY; clear HY
    rw [z, q]
    clear z q c
    go_wp2_with fail
  case' inl.inr =>
    have HL : Hid ((hbits2 bs sr).length % 8 = 0) := by show _ = _; rw [HT.out, z, q]; simp [bitsN_length]
    have HG : Hid (wrB (o, []) (bitsN (rateTail sr) 16) = wrB (o, []) (hbits2 bs sr)) := by show _ = _; rw [HT.out, z, q]; rfl
    rw [z, q]
    clear z q c
    go_wp2_with fail
    refine (wbits (snk8 B D T b M R rc d t m r rd pre hpre) _ _ 16 _ _ HB.out.1 (by omega) (by omega) (by omega) (by omega) (by have := hO2.out; omega)).mono ?_
    rintro e wd ⟨rfl, hb, hfr⟩
    have HX := HB.out.next HM.out.2.1 hb hfr; clear hb hfr
    change HS _ _ _ _ _ (wrB (o, []) (bitsN (rateTail sr) 16)) _ at HX
    rw [HG.out] at HX
    replace HX := Lib.hid HX
    go_wp2_with fail
  case' inr.inl =>
    have HL : Hid ((hbits2 bs sr).length % 8 = 0) := by show _ = _; rw [HT.out, z, q]; simp [bitsN_length]
    have HG : Hid (wrB (o, []) (bitsN ((bs : Int) - 1) 8) = wrB (o, []) (hbits2 bs sr)) := by show _ = _; rw [HT.out, z, q]; simp [bitsN]
    rw [z, q]
    clear z q
    go_wp2_with fail
    clear c
    refine (wbits (snk8 B D T b M R rc d t m r rd pre hpre) _ _ 8 _ _ HB.out.1 (by omega) (by omega) (by omega) (by omega) (by have := hO2.out; omega)).mono ?_
    rintro e wc ⟨rfl, hb, hfr⟩
    have HX := HB.out.next HM.out.2.1 hb hfr; clear hb hfr
    change HS _ _ _ _ _ (wrB (o, []) (bitsN ((bs : Int) - 1) 8)) _ at HX
    rw [HG.out] at HX
    replace HX := Lib.hid HX
    go_wp2_with fail
  case' inr.inr =>
    have HL : Hid ((hbits2 bs sr).length % 8 = 0) := by show _ = _; rw [HT.out, z, q]; simp [bitsN_length]
    have HG : Hid (wrB (wrB (o, []) (bitsN ((bs : Int) - 1) 8)) (bitsN (rateTail sr) 16) = wrB (o, []) (hbits2 bs sr)) := by show _ = _; rw [HT.out, z, q, wrB_append]
    rw [z, q]
    clear z q
    go_wp2_with fail
    clear c
    refine (wbits (snk8 B D T b M R rc d t m r rd pre hpre) _ _ 8 _ _ HB.out.1 (by omega) (by omega) (by omega) (by omega) (by have := hO2.out; omega)).mono ?_
    rintro e wc ⟨rfl, hb, hfr⟩
    have HC := Lib.hid (HB.out.next HM.out.2.1 hb hfr); clear hb hfr
    go_wp2_with fail
    refine (wbits (snk8 B D T b M R rc d t m r rd pre hpre) _ _ 16 _ _ HC.out.1 (by omega) (by omega) (by omega) (by omega) (by have := hO2.out; rw [cnt_wrB, bitsN_length]; simp; omega)).mono ?_
    rintro e wd ⟨rfl, hb, hfr⟩
    have HX := HC.out.next HM.out.2.1 hb hfr; clear hb hfr
    change HS _ _ _ _ _ (wrB (wrB (o, []) (bitsN ((bs : Int) - 1) 8)) (bitsN (rateTail sr) 16)) _ at HX
    rw [HG.out] at HX
    replace HX := Lib.hid HX
    go_wp2_with fail
  all_goals
    have hZ := (HP _ HL.out).out
    refine (walign (snk8 B D T b M R rc d t m r rd pre hpre) _ _ _ HX.out.1 (by rw [cnt_wrB]; have := hO2.out; have hr := rateTail_cases sr; have hs := sizeTail_cases bs; rw [HT.out, List.length_append, bitsN_length, bitsN_length]; omega)).mono ?_
    rintro e we ⟨⟨nn, rfl⟩, hb, hfr⟩
    have hX := HX.out.next HM.out.2.1 hb hfr
    rw [hZ, wrB_nil, show wrB (o, []) (hbits2 bs sr) = ((wrB (o, []) (hbits2 bs sr)).1, []) from wrB_whole' _ _ (by simpa using HL.out) (by simp), ← HE.out] at hX
    clear hb hfr HX hZ
    have HW := Lib.hid hX; clear hX
    have hl8 := look_sum8
    have ha8 := ahead_sum8
    have he8 := enter194
    go_wp2_with fail
    refine (sum8 _ _ _ _ HW.out.1.sink.2.2.1).mono ?_
    clear hl8 ha8 he8
    rintro e wf ⟨rfl, rfl⟩
    go_wp2_with fail
    refine (numWrite8 (snk16 B D T b M R rc pre hpre) _ _ _ HW.out.1.sink.2.2.2 (by have := (crc8 (headB hf bs sr ch bps num)).isLt; omega) (by have := headB_length hf bs sr ch bps num; dsimp only; omega)).mono ?_
    rintro e wg ⟨rfl, hI, hfr⟩
    have HI := Lib.hid hI; clear hI
    have HG := Lib.hid hfr; clear hfr
    go_wp2_with fail
    refine leaves_cons (f := 62) (args := #[.pointer (some ⟨w2.heap.size, 0, none⟩)]) (by simp) (by simp [go_sem]) ?_
    refine (closeNoneD _ .returning _ _ _ (HG.out.at HW.out.1.cells (fun hm => HW.out.1.out (by simp [snk16] at hm; simp [snk8, hm])) (by decide))).mono ?_
    rintro e u' w'' ⟨rfl, rfl, rfl⟩
    refine ⟨_, results_tmp rfl _ _ _, rfl, HI.out, ?_⟩
    have g1 := HM.out.2.2.1.fr h.out.live.1 (fun _ hk => by simp at hk)
    have g2 := Kp.fr (Kp.alloc [] w2 (.cells #[(snk8 B D T b M R rc d t m r rd pre hpre).v, .int .u8 0, .int .u8 0] 172 (0, 0))) (Nat.le_trans h.out.live.1 HM.out.2.2.1.size) (fun _ hk => by simp at hk)
    exact ((((g1.trans g2).mono (S' := [M, R, D, T, b]) (Nat.le_refl _) (fun _ _ hk => by simp at hk)).after HW.out.2.1 HM.out.2.2.2).trans HG.out)
end Go.Proofs.YtemcpcgcnjahjaaGreatDoor
