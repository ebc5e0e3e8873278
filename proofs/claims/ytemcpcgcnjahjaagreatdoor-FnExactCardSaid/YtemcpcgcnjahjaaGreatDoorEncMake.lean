/-
  An encoder, made and closed.
-/
import Derived.Test.YtemcpcgcnjahjaaGreatDoorWFrame
import Derived.Test.YtemcpcgcnjahjaaGreatDoorEncMeta
import Derived.Stop.Asserts
import Derived.Lib.SlBytesConst
namespace Go.Proofs.YtemcpcgcnjahjaaGreatDoor
open Go.RowKit

/-- The cells of a new digest. -/
def digZero : Array Value := (List.replicate 4 (Value.int .u32 0) ++ List.replicate 64 (Value.int .u8 0) ++ [Value.int .i64 0, Value.int .u64 0]).toArray
theorem digZero_ok : DigOk digZero 0 where
  size := by simp [digZero]
  s := fun i hi => ⟨0, by
    match i, hi with
    | 0, _ | 1, _ | 2, _ | 3, _ => rfl⟩
  x := fun i hi => ⟨0, by
    unfold digZero
    rw [List.getElem?_toArray, List.append_assoc, List.getElem?_append_right (by simp), List.getElem?_append_left (by simp; omega), List.getElem?_replicate, if_pos (by simp; omega)]⟩
  n := rfl
  l := ⟨0, rfl⟩

/-- What md5.New comes to. -/
def NewMd (w : World) (e : Ending) (w' : World) : Prop := e = .returned (.pointer (some ⟨w.heap.size, 0, none⟩)) ∧ (∃ nx, nx < 64 ∧ Dig w.heap.size nx w') ∧ Kp [] w w'

set_option maxRecDepth 100000 in
set_option maxHeartbeats 4000000 in
/-- (*digest).Reset. -/
theorem mdReset (d : Nat) (cs : Array Value) (w : World) (h : w.heap[d]? = some (.cells cs 170 (0, 0))) (hok : DigOk cs 0) :
    Calls Tryz.prog 50 #[.pointer (some ⟨d, 0, none⟩)] w fun e w' => e = .returned (.tuple #[]) ∧ (∃ cs', w'.heap[d]? = some (.cells cs' 170 (0, 0)) ∧ DigOk cs' 0) ∧ Kp [d] w w' := by
  obtain ⟨x0, h0⟩ := hok.s 0 (by omega)
  obtain ⟨x1, h1⟩ := hok.s 1 (by omega)
  obtain ⟨x2, h2⟩ := hok.s 2 (by omega)
  obtain ⟨x3, h3⟩ := hok.s 3 (by omega)
  obtain ⟨x5, h5⟩ := hok.l
  have c0 := (Lib.cell_of_heap h 0).trans h0
  have c1 := (Lib.cell_of_heap h 1).trans h1
  have c2 := (Lib.cell_of_heap h 2).trans h2
  have c3 := (Lib.cell_of_heap h 3).trans h3
  have c4 := (Lib.cell_of_heap h 68).trans hok.n
  have c5 := (Lib.cell_of_heap h 69).trans h5
  have z0 := Lib.frozen_of_heap h 0
  have z1 := Lib.frozen_of_heap h 1
  have z2 := Lib.frozen_of_heap h 2
  have z3 := Lib.frozen_of_heap h 3
  have z4 := Lib.frozen_of_heap h 68
  have z5 := Lib.frozen_of_heap h 69
  have H := Lib.hid h; clear h
  have HOK := Lib.hid hok; clear hok
  clear h0 h1 h2 h3 h5
  go_enter Tryz.func50, Tryz.ntmps50
  go_wp2_with fail
  go_end0
  refine ⟨rfl, ⟨_, heap_set (heap_set (heap_set (heap_set (heap_set (heap_set H.out))))), ?_⟩, ?_⟩
  · exact (((((HOK.out.setS 0 (by omega) _).setS 1 (by omega) _).setS 2 (by omega) _).setS 3 (by omega) _).setN 0).setL 0
  · exact (((((Kp.setCell _ _ _ (by simp)).trans (Kp.setCell _ _ _ (by simp))).trans (Kp.setCell _ _ _ (by simp))).trans (Kp.setCell _ _ _ (by simp))).trans (Kp.setCell _ _ _ (by simp))).trans (Kp.setCell _ _ _ (by simp))

set_option maxRecDepth 100000 in
set_option maxHeartbeats 4000000 in
/-- md5.New. -/
theorem mdNew (w : World) : Calls Tryz.prog 24 #[] w (NewMd w) := by
  have hz : Tryz.zeroCells170 = digZero := by kernel_rfl
  have HZ : Hid ((w.alloc (.cells Tryz.zeroCells170 170)).heap[w.heap.size]? = some (.cells digZero 170 (0, 0))) := by
    show _ = _
    rw [heap_alloc_new, hz]
  clear hz
  go_enter Tryz.func24, Tryz.ntmps24
  go_wp2_with fail
  refine (mdReset w.heap.size digZero _ HZ.out digZero_ok).mono ?_
  rintro e w' ⟨rfl, ⟨cs, h1, h2⟩, hk⟩
  have H := Lib.hid (And.intro h1 h2)
  have K := Lib.hid hk
  clear h1 h2 hk
  go_wp2_with fail
  go_ret
  exact ⟨rfl, ⟨0, by omega, cs, H.out⟩, (Kp.alloc [] _ _).new K.out (by simp)⟩

theorem ta_seek : ∀ (v : Value) (w : World), (Instr.typeAssert (.iface 62 v) 100 147 true).run Tryz.prog w = .ok (.tuple #[.nilIface, .bool false]) w := fun v w => run_typeAssert_lacksB Tryz.underlying147 (by kernel_rfl) (by kernel_rfl) v 100 w
theorem ta_close : ∀ (v : Value) (w : World), (Instr.typeAssert (.iface 62 v) 100 153 true).run Tryz.prog w = .ok (.tuple #[.nilIface, .bool false]) w := fun v w => run_typeAssert_lacksB Tryz.underlying153 (by kernel_rfl) (by kernel_rfl) v 100 w

set_option maxRecDepth 100000 in
set_option maxHeartbeats 4000000 in
/-- (*Encoder).Close: nothing. -/
theorem encClose {E ST IN b d nch : Nat} {x1 x2 x3 num : Int} {w : World} (h : EncAt E ST IN b d nch x1 x2 x3 num w) :
    Calls Tryz.prog 15 #[.pointer (some ⟨E, 0, none⟩)] w fun e w' => e = .returned .nilIface ∧ w' = w := by
  have e1 := Lib.cell_of_heap h.enc 1
  simp only [List.getElem?_toArray, List.getElem?_cons_zero, List.getElem?_cons_succ] at e1
  have h1 := ta_seek
  have h2 := ta_close
  clear h
  go_enter Tryz.func15, Tryz.ntmps15
  go_wp2_with fail
  go_ret
  exact ⟨rfl, rfl⟩

set_option maxHeartbeats 4000000 in
/-- impl.code of no error. -/
theorem codeNil (w : World) : Calls Tryz.prog 16 #[.nilIface] w fun e w' => e = .returned (.int .i64 0) ∧ w' = w := by
  go_enter Tryz.func16, Tryz.ntmps16
  go_wp2_with fail
  go_ret
  exact ⟨rfl, rfl⟩

theorem bwStart {B : Nat} (σ : Snk B) {bs : List UInt8} {w : World} (h : σ.I w bs) : BW σ w.heap.size (bs, []) (w.alloc (.cells #[σ.v, .int .u8 0, .int .u8 0] 172)) := by
  have hl := σ.live h
  refine ⟨heap_alloc_new _ _, by simp, hl.1, fun hm => ?_, σ.alloc h _⟩
  have := (hl.2 _ hm).2.1
  omega

/-- The signature. -/
def sig : List UInt8 := [102, 76, 97, 67]
/-- The bytes ahead of the frames. -/
def PInfo.bytes (i : PInfo) : List UInt8 := (wrB (sig, []) (i.bitsOf true)).1 ++ List.replicate 16 0

theorem PInfo.bytes_length (i : PInfo) : i.bytes.length = 42 := by
  unfold PInfo.bytes
  have h := cnt_wrB (sig, []) (i.bitsOf true)
  have h2 := wrB_whole (sig, []) (i.bitsOf true) (by rw [i.bitsOf_length]; rfl) (by simp)
  rw [i.bitsOf_length] at h
  unfold cnt at h
  rw [h2] at h
  rw [List.length_append, List.length_replicate]
  simp [sig] at h
  simp [sig]
  omega

/-- What NewEncoder comes to. -/
def EncMade (i : PInfo) (IN b B : Nat) (w : World) (e : Ending) (w' : World) : Prop :=
  ∃ E ST d, e = .returned (.tuple #[.pointer (some ⟨E, 0, none⟩), .nilIface]) ∧ w.heap.size ≤ E ∧ w.heap.size ≤ ST ∧ w.heap.size ≤ d ∧
    w'.heap[E]? = some (.cells #[.pointer (some ⟨ST, 0, none⟩), .iface 62 (.pointer (some ⟨b, 0, none⟩)), .int .u16 0, .int .u16 0, .int .u32 0, .int .u32 0, .iface 105 (.pointer (some ⟨d, 0, none⟩)), .int .u64 0, .int .u64 0, .bool true] 110 (0, 0)) ∧
    w'.heap[ST]? = some (.cells #[.pointer (some ⟨IN, 0, none⟩), .slice none 0 0, .nilIface] 104 (0, 0)) ∧
    w'.heap[IN]? = some (.cells i.cells 122 (0, 0)) ∧ (∃ nx, nx < 64 ∧ Dig d nx w') ∧ Buf B b i.bytes w' ∧ Fr B [b] w w'

/-- Between the calls of NewEncoder. -/
structure EMS (i : PInfo) (IN b E ST d : Nat) (w : World) : Prop where
  enc : w.heap[E]? = some (.cells #[.pointer (some ⟨ST, 0, none⟩), .iface 62 (.pointer (some ⟨b, 0, none⟩)), .int .u16 0, .int .u16 0, .int .u32 0, .int .u32 0, .iface 105 (.pointer (some ⟨d, 0, none⟩)), .int .u64 0, .int .u64 0, .bool true] 110 (0, 0))
  str : w.heap[ST]? = some (.cells #[.pointer (some ⟨IN, 0, none⟩), .slice none 0 0, .nilIface] 104 (0, 0))
  inf : w.heap[IN]? = some (.cells i.cells 122 (0, 0))
  dig : ∃ nx, nx < 64 ∧ Dig d nx w

theorem EMS.frT {i : PInfo} {IN b E ST d B : Nat} {w w' : World} {S Ts : List Nat} (h : EMS i IN b E ST d w) (k : Fr B S w w') (hT : OfTy w S Ts) (hd : 110 ∉ Ts ∧ 104 ∉ Ts ∧ 122 ∉ Ts ∧ 170 ∉ Ts) : EMS i IN b E ST d w' :=
  ⟨k.at h.enc (hT.not h.enc hd.1) (by decide), k.at h.str (hT.not h.str hd.2.1) (by decide), k.at h.inf (hT.not h.inf hd.2.2.1) (by decide), Dig.frT h.dig k hT hd.2.2.2⟩

theorem bwB_ty {B b W : Nat} {pre : List UInt8} {hpre : pre.length ≤ 17592186044416} {s : List UInt8 × List Bool} {w : World} (h : BW (bufSnk B b pre hpre) W s w) : OfTy w (W :: [b]) [172, 56] := by
  obtain ⟨c, hb⟩ := h.sink.2.block
  intro k hk
  simp only [List.mem_cons, List.not_mem_nil, or_false] at hk
  rcases hk with rfl | rfl
  · exact ⟨_, _, _, h.cells, by simp⟩
  · exact ⟨_, _, _, hb, by simp⟩

set_option maxRecDepth 100000 in
set_option maxHeartbeats 8000000 in
/-- NewEncoder. -/
theorem newEncoder (i : PInfo) (IN b B : Nat) (w : World) (hi : i.Ok) (hB : B ≤ w.heap.size) (hb : Buf B b [] w) (hI : w.heap[IN]? = some (.cells i.cells 122 (0, 0))) (hIN : IN ≠ b) :
    Calls Tryz.prog 9 #[.iface 62 (.pointer (some ⟨b, 0, none⟩)), .pointer (some ⟨IN, 0, none⟩), .slice none 0 0] w (EncMade i IN b B w) := by
  have HB := Lib.hid hB; clear hB
  have HU := Lib.hid hb; clear hb
  have HI := Lib.hid hI; clear hI
  have HK := Lib.hid hi; clear hi
  have HNE := Lib.hid hIN; clear hIN
  go_enter Tryz.func9, Tryz.ntmps9
  go_wp2_with fail
  refine (mdNew _).mono ?_
  rintro e w1 ⟨rfl, hd, hk⟩
  have HD := Lib.hid hd
  have HK1 := Lib.hid hk
  clear hd hk
  go_wp2_with fail
  refine (newWriter _ _ _).mono ?_
  rintro e w2 ⟨rfl, hw2⟩
  have hpre : ([] : List UInt8).length ≤ 17592186044416 := by simp
  have hK0 : Kp [] w (w1.alloc (Obj.cells #[Value.pointer (some { block := w.heap.size, off := 0 }), Value.iface 62 (Value.pointer (some { block := b, off := 0 })), Value.int IntKind.u16 0, Value.int IntKind.u16 0, Value.int IntKind.u32 0, Value.int IntKind.u32 0, Value.iface 105 (Value.pointer (some { block := w.heap.size + 1, off := 0 })), Value.int IntKind.u64 0, Value.int IntKind.u64 0, Value.bool true] 110)) := ((Kp.alloc _ _ _).trans HK1.out).trans (Kp.alloc _ _ _)
  have hbw := bwStart (bufSnk B b [] hpre) (bs := []) (w := w1.alloc (Obj.cells #[Value.pointer (some { block := w.heap.size, off := 0 }), Value.iface 62 (Value.pointer (some { block := b, off := 0 })), Value.int IntKind.u16 0, Value.int IntKind.u16 0, Value.int IntKind.u32 0, Value.int IntKind.u32 0, Value.iface 105 (Value.pointer (some { block := w.heap.size + 1, off := 0 })), Value.int IntKind.u64 0, Value.int IntKind.u64 0, Value.bool true] 110)) ⟨Nat.le_trans HB.out hK0.size, HU.out.kp hK0 (by simp)⟩
  have hE2 := heap_alloc (x := .cells #[.iface 62 (.pointer (some ⟨b, 0, none⟩)), .int .u8 0, .int .u8 0] 172) (heap_alloc_new w1 (Obj.cells #[Value.pointer (some { block := w.heap.size, off := 0 }), Value.iface 62 (Value.pointer (some { block := b, off := 0 })), Value.int IntKind.u16 0, Value.int IntKind.u16 0, Value.int IntKind.u32 0, Value.int IntKind.u32 0, Value.iface 105 (Value.pointer (some { block := w.heap.size + 1, off := 0 })), Value.int IntKind.u64 0, Value.int IntKind.u64 0, Value.bool true] 110))
  have hS1 := HK1.out.at (heap_alloc_new w _) (by simp)
  have hI2 := hK0.at HI.out (by simp)
  have hs1 := HK1.out.size
  rw [World.size_alloc] at hs1
  have hdd := HD.out
  rw [World.size_alloc] at hdd
  have hf2 : Fr B [b] w w2 := (hw2 ▸ (hK0.trans (Kp.alloc _ _ _)).fr HB.out (by simp) : Fr B [] w w2).mono (Nat.le_refl _) (by simp)
  have hEM : EMS i IN b w1.heap.size w.heap.size (w.heap.size + 1) w2 := by
    rw [hw2]
    refine ⟨hE2, heap_alloc (heap_alloc hS1), heap_alloc hI2, ?_⟩
    obtain ⟨nx, hnx, cs, hcs, hok⟩ := hdd
    exact ⟨nx, hnx, cs, heap_alloc (heap_alloc hcs), hok⟩
  rw [World.size_alloc]
  rw [World.size_alloc, show (bufSnk B b [] hpre).v = .iface 62 (.pointer (some ⟨b, 0, none⟩)) from rfl, ← hw2] at hbw
  have HBW := Lib.hid hbw
  have HEM := Lib.hid hEM
  have HF2 := Lib.hid hf2
  have HTY := Lib.hid (bwB_ty hbw)
  have HS1 := Lib.hid hs1
  clear hbw hEM hf2 hE2 hS1 hI2 hs1 hdd hK0 hw2
  have hcv := fun (w : World) (C : Array Value) (n c : Nat) => Lib.run_convert_bytes_const (P := Tryz.prog) w 23 5 C n c Tryz.underlying23 Tryz.underlying5
  go_wp2_with fail
  have HX : Hid (w2.heap.size ∉ (w1.heap.size + 1) :: [b]) := HBW.out.new
  have HSrc : Hid (Src w2.heap.size 0 sig (w2.alloc (.cells #[.int .u8 102, .int .u8 76, .int .u8 97, .int .u8 67] 5 (4, 5)))) := Src_of (T := 5) (fz := (4, 5)) (heap_alloc_new _ _)
  refine (wwrite (bufSnk B b [] hpre) _ [] w2.heap.size 0 4 4 sig _ (HBW.out.alloc _) rfl (fun hm => HX.out (List.mem_cons_of_mem _ hm)) HSrc.out (by simp)).mono ?_
  rintro e w3 ⟨rfl, hb, hf⟩
  have HF3 : Hid (Fr B ((w1.heap.size + 1) :: [b]) w2 w3) := ((Kp.alloc [] _ _).fr HBW.out.baseLe (by simp) |>.mono (Nat.le_refl _) (by simp)).trans hf
  have HB3 : Hid (BW (bufSnk B b [] hpre) (w1.heap.size + 1) (sig, []) w3) := hb
  have HE3 := Lib.hid (HEM.out.frT HF3.out HTY.out (by decide))
  clear hb hf hcv
  go_wp2_with fail
  refine (encInfo (bufSnk B b [] hpre) _ IN i true sig w3 HK.out HB3.out HE3.out.inf ((bwB_ty HB3.out).not HE3.out.inf (by decide)) (by simp [sig])).mono ?_
  rintro e w4 ⟨rfl, hb, hf⟩
  have HF4 : Hid (Fr B ((w1.heap.size + 1) :: [b]) w2 w4) := HF3.out.trans hf
  have HB4 : Hid (BW (bufSnk B b [] hpre) (w1.heap.size + 1) (i.bytes, []) w4) := hb
  have HE4 := Lib.hid (HEM.out.frT HF4.out HTY.out (by decide))
  have hbu : Buf B b ([] ++ i.bytes) w4 := HB4.out.sink.2
  rw [List.nil_append] at hbu
  have HBU4 := Lib.hid hbu
  clear hbu
  clear hb hf
  go_wp2_with fail
  go_loop [50] (fun j => j = .int .i64 0) (fun _ => 0)
  case atStart => rfl
  case round =>
    obtain rfl := hrel
    go_wp2_with fail
    refine (alignNone _ _ _ _ HB4.out.cells).mono ?_
    rintro e w5 ⟨rfl, rfl⟩
    go_wp2_with fail
    go_ret2
    refine ⟨w1.heap.size, w.heap.size, w.heap.size + 1, rfl, by have := HS1.out; omega, Nat.le_refl _, by omega, HE4.out.enc, HE4.out.str, HE4.out.inf, HE4.out.dig, HBU4.out, HF2.out.after HF4.out ?_⟩
    intro k hk hm
    have := HS1.out
    simp only [List.mem_cons, List.not_mem_nil, or_false] at hm ⊢
    omega
end Go.Proofs.YtemcpcgcnjahjaaGreatDoor
