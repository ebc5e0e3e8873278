/-
  A frame as it lies; the running sum over its samples.
-/
import Derived.Test.YtemcpcgcnjahjaaGreatDoorMdE
import Derived.Test.YtemcpcgcnjahjaaGreatDoorSubAll
import Derived.Test.YtemcpcgcnjahjaaGreatDoorHead
namespace Go.Proofs.YtemcpcgcnjahjaaGreatDoor
open Go.RowKit

/-- None of these blocks is one of a frame's. -/
def NoData (w : World) (S : List Nat) : Prop := ∀ k ∈ S, ∀ c T fz, w.heap[k]? = some (.cells c T fz) → T ≠ 129 ∧ T ≠ 133 ∧ T ≠ 135 ∧ T ≠ 21 ∧ T ≠ 77 ∧ T ≠ 78 ∧ T ≠ 5

/-- A frame as it is given. -/
structure PFrame where
  varies : Bool
  size : Nat
  rate : Int
  assign : Nat
  bits : Nat
  subs : List PSub

/-- A channel somewhere. -/
def SubSome (s : PSub) (a : Nat) (w : World) : Prop := ∃ R P g cap pcap v4 v5 v6, SubAt s a R P g cap pcap v4 v5 v6 w

theorem SubAt.out {s : PSub} {a R P g cap pcap : Nat} {v4 v5 v6 : Value} {w : World} {S : List Nat} (h : SubAt s a R P g cap pcap v4 v5 v6 w) (hS : NoData w S) : ∀ k ∈ [a, R, P, g], k ∉ S := by
  obtain ⟨pc, hP, hp⟩ := h.pars
  obtain ⟨sc, hG, hg⟩ := h.smp
  intro k hk hm
  simp at hk
  rcases hk with rfl | rfl | rfl | rfl
  · exact (hS _ hm _ _ _ h.sub).1 rfl
  · exact (hS _ hm _ _ _ h.rice).2.1 rfl
  · exact (hS _ hm _ _ _ hP).2.2.1 rfl
  · exact (hS _ hm _ _ _ hG).2.2.2.1 rfl

/-- A frame as it lies: in block F, its channels' row in block Y. -/
structure FrameAt (f : PFrame) (num : Int) (F Y ycap : Nat) (w : World) : Prop where
  head : w.heap[F]? = some (.cells #[.bool (!f.varies), .int .u16 f.size, .int .u32 f.rate, .int .u8 f.assign, .int .u8 f.bits, .int .u64 num, .slice (some ⟨Y, 0, none⟩) f.subs.length ycap, .nilIface, .pointer none, .nilIface, .nilIface] 77 (0, 0))
  subs : ∃ sc : Array Value, w.heap[Y]? = some (.cells sc 78 (0, 0)) ∧ ∀ (c : Nat) (s : PSub), f.subs[c]? = some s → ∃ a, sc[c]? = some (.pointer (some ⟨a, 0, none⟩)) ∧ SubSome s a w

theorem FrameAt.fr {f : PFrame} {num : Int} {F Y ycap B : Nat} {w w' : World} {S : List Nat} (h : FrameAt f num F Y ycap w) (k : Fr B S w w') (hS : NoData w S) : FrameAt f num F Y ycap w' := by
  obtain ⟨sc, hY, hc⟩ := h.subs
  refine ⟨k.at h.head (fun hm => (hS _ hm _ _ _ h.head).2.2.2.2.1 rfl) (by decide), sc, k.at hY (fun hm => (hS _ hm _ _ _ hY).2.2.2.2.2.1 rfl) (by decide), fun c s hcs => ?_⟩
  obtain ⟨a, ha, R, P, g, cap, pcap, v4, v5, v6, hs⟩ := hc c s hcs
  exact ⟨a, ha, R, P, g, cap, pcap, v4, v5, v6, hs.fr k (hs.out hS)⟩
theorem FrameAt.get {f : PFrame} {num : Int} {F Y ycap : Nat} {w : World} (h : FrameAt f num F Y ycap w) (c : Nat) (hc : c < f.subs.length) : ∃ a, w.cell? ⟨Y, c, none⟩ = some (.pointer (some ⟨a, 0, none⟩)) ∧ SubSome f.subs[c] a w := by
  obtain ⟨sc, hY, hx⟩ := h.subs
  obtain ⟨a, ha, hs⟩ := hx c _ (List.getElem?_eq_getElem hc)
  exact ⟨a, (Lib.cell_of_heap hY c).trans ha, hs⟩

theorem look_md (a : Addr) (w : World) : (method 429 105 (.pointer (some a)) "Write").run Tryz.prog w = .ok (168, .pointer (some a)) w := by kernel_rfl
theorem ahead_md (a : Addr) (w : World) : (nilAhead 429 105 (.pointer (some a)) "Write").run Tryz.prog w = .ok (some false) w := by kernel_rfl
theorem enter168 (args : Array Value) (w : World) : (callFunc 168 args).run Tryz.prog w = .ok (.enter 168 args) w := Go.Proofs.enters_of Tryz.func168 (by kernel_rfl) rfl args w

theorem mdBuf (d bf n : Nat) (cs : Array Value) (l : List Value) (w : World) (hD : ∃ nx, nx < 64 ∧ Dig d nx w) (hbf : w.heap[bf]? = some (.cells cs 202 (0, 0))) (hl : AnyBytes l) (hn : l.length = n) (hn1 : 1 ≤ n) (hn3 : n ≤ 3) (hs : ∀ (j : Nat) v, l[j]? = some v → cs[j]? = some v) :
    Calls Tryz.prog 168 #[.pointer (some ⟨d, 0, none⟩), .slice (some ⟨bf, 0, none⟩) n 3] w (MdWrote d n w) := by
  refine mdWrite d bf n 3 l w hD hl hn hn1 hn3 (fun j v hj => (Lib.cell_of_heap hbf j).trans (hs j v hj)) ?_ hn3
  obtain ⟨nx, _, cd, hcd, _⟩ := hD
  exact ne_of_types hbf hcd (by decide)

set_option maxRecDepth 100000 in
set_option maxHeartbeats 4000000 in
/-- Hash. -/
theorem hash (f : PFrame) (num : Int) (F Y ycap d n : Nat) (w : World) (hF : FrameAt f num F Y ycap w) (hD : ∃ nx, nx < 64 ∧ Dig d nx w) (hn : ∀ s ∈ f.subs, s.smp.length = n) (h1 : 1 ≤ f.subs.length) (h8 : f.subs.length ≤ 8) (hsz : n ≤ 256) (hb : BpsOk f.bits) :
    Calls Tryz.prog 35 #[.pointer (some ⟨F, 0, none⟩), .iface 105 (.pointer (some ⟨d, 0, none⟩))] w fun e w' => e = .returned (.tuple #[]) ∧ (∃ nx, nx < 64 ∧ Dig d nx w') ∧ Kp [d] w w' := by
  have hl := look_md
  have ha := ahead_md
  have he := enter168
  have c4 := Lib.cell_of_heap hF.head 4
  have c6 := Lib.cell_of_heap hF.head 6
  simp only [List.getElem?_toArray, List.getElem?_cons_zero, List.getElem?_cons_succ] at c4 c6
  obtain ⟨a0, cy, hsub⟩ := hF.get 0 h1
  obtain ⟨R, P, g, cap, pcap, v4, v5, v6, hs0⟩ := hsub
  have cs8 := Lib.cell_of_heap hs0.sub 8
  simp only [List.getElem?_toArray, List.getElem?_cons_zero, List.getElem?_cons_succ] at cs8
  rw [hn _ (List.getElem_mem _)] at cs8
  have l1 := Lib.lt_of_heap hF.head
  have l2 := World.block_lt_of_cell? _ _ cy
  have l3 := Lib.lt_of_heap hs0.sub
  have HF := Lib.hid hF; clear hF
  have HD := Lib.hid hD; clear hD
  have HN := Lib.hid hn; clear hn
  have HB := Lib.hid hb; clear hb
  have HS0 := Lib.hid hs0; clear hs0
  go_enter Tryz.func35, Tryz.ntmps35
  go_wp2_with fail
  have hST0 : ∀ wx : World, Kp [d] w wx → Hid (FrameAt f num F Y ycap wx) := by
    intro wx hk
    obtain ⟨nx, _, cs, hcs, _⟩ := HD.out
    refine HF.out.fr (hk.fr (B := 0) (by omega) (by simp)) ?_
    intro k hk c T fz hc
    obtain rfl : k = d := by simpa using hk
    rw [hcs] at hc
    simp only [Option.some.injEq, Obj.cells.injEq] at hc
    rw [← hc.2.1]; decide
  have HDN : Hid (d < w.heap.size) := by
    obtain ⟨nx, _, cs, hcs, _⟩ := HD.out
    exact Lib.lt_of_heap hcs
  clear c4 c6 cs8 cy
  go_loopw [7] (fun iv wx => ∃ i : Nat, i ≤ n ∧ iv = .int .i64 i ∧ (∃ nx, nx < 64 ∧ Dig d nx wx) ∧ Kp [d] w wx ∧ ∃ b0 b1 b2 : Int, wx.heap[w.heap.size]? = some (.cells #[.int .u8 b0, .int .u8 b1, .int .u8 b2] 202 (0, 0))) (fun iv _ => n - (intOf iv).toNat)
  case atStart =>
    refine ⟨0, by omega, rfl, ?_, Kp.alloc _ _ _, 0, 0, 0, heap_alloc_new _ _⟩
    obtain ⟨nx, hnx, cs, hcs, hok⟩ := HD.out
    exact ⟨nx, hnx, cs, heap_alloc hcs, hok⟩
  case round =>
    obtain ⟨i, hi, rfl, hdx, hkx, hbx⟩ := hrel
    have HDX := Lib.hid hdx; clear hdx
    have HKX := Lib.hid hkx; clear hkx
    have HBX := Lib.hid hbx; clear hbx
    have HFX := hST0 _ HKX.out
    have c6 := Lib.cell_of_heap HFX.out.head 6
    simp only [List.getElem?_toArray, List.getElem?_cons_zero, List.getElem?_cons_succ] at c6
    by_cases hin : i < n
    · go_wp2_with fail
      go_loopw [42] (fun cv wx => ∃ c : Nat, c ≤ f.subs.length ∧ cv = .int .i64 c ∧ (∃ nx, nx < 64 ∧ Dig d nx wx) ∧ Kp [d] w wx ∧ ∃ b0 b1 b2 : Int, wx.heap[w.heap.size]? = some (.cells #[.int .u8 b0, .int .u8 b1, .int .u8 b2] 202 (0, 0))) (fun cv _ => f.subs.length - (intOf cv).toNat)
      case atStart => exact ⟨0, by omega, rfl, HDX.out, HKX.out, HBX.out⟩
      case round =>
        clear HDX HKX HBX HFX c6
        obtain ⟨c, hc, rfl, hdx, hkx, hbx⟩ := hrel
        have HDX := Lib.hid hdx; clear hdx
        have HKX := Lib.hid hkx; clear hkx
        have HFX := hST0 _ HKX.out
        obtain ⟨b0, b1, b2, hbf⟩ := hbx
        by_cases hcn : c < f.subs.length
        · obtain ⟨a, cy, R', P', g', cap', pcap', v4', v5', v6', hs⟩ := HFX.out.get c hcn
          have hlen := HN.out _ (List.getElem_mem hcn)
          have c8 := Lib.cell_of_heap hs.sub 8
          simp only [List.getElem?_toArray, List.getElem?_cons_zero, List.getElem?_cons_succ] at c8
          have cx := hs.get i (by rw [hlen]; exact hin)
          rw [hlen] at c8
          have HSC := Lib.hid hs; clear hs
          generalize f.subs[c].smp.getD i 0 = x at cx
          clear hlen
          have z0 := Lib.frozen_of_heap hbf 0
          have z1 := Lib.frozen_of_heap hbf 1
          have z2 := Lib.frozen_of_heap hbf 2
          have e0 := Lib.cell_of_heap hbf 0
          have e1 := Lib.cell_of_heap hbf 1
          have e2 := Lib.cell_of_heap hbf 2
          simp only [List.getElem?_toArray, List.getElem?_cons_zero, List.getElem?_cons_succ] at e0 e1 e2
          have HBF := Lib.hid hbf; clear hbf
          have hcl : (1 ≤ f.bits ∧ f.bits ≤ 8) ∨ (9 ≤ f.bits ∧ f.bits ≤ 16) ∨ (17 ≤ f.bits ∧ f.bits ≤ 24) := by
            have := HB.out
            unfold BpsOk at this
            omega
          rcases hcl with ⟨hb1, hb2⟩ | ⟨hb1, hb2⟩ | ⟨hb1, hb2⟩
          · -- one byte
            have HW : Hid (Kp [w.heap.size] wr (wr.setCell ⟨w.heap.size, 0, none⟩ (.int .u8 (x % 256)))) := ((Kp.refl [w.heap.size] wr).trans (Kp.setCell _ _ _ (by simp)))
            have HWB : Hid ((wr.setCell ⟨w.heap.size, 0, none⟩ (.int .u8 (x % 256))).heap[w.heap.size]? = some (.cells #[.int .u8 (x % 256), .int .u8 b1, .int .u8 b2] 202 (0, 0))) := by
              show _ = _
              have := heap_set (i := 0) (v := .int .u8 (x % 256)) (HBF.out)
              simpa using this
            have HWD : Hid (∃ nx, nx < 64 ∧ Dig d nx (wr.setCell ⟨w.heap.size, 0, none⟩ (.int .u8 (x % 256)))) := by
              obtain ⟨nx, hnx, cs, hcs, hok⟩ := HDX.out
              exact ⟨nx, hnx, cs, HW.out.at hcs (by simp; exact Nat.ne_of_lt HDN.out), hok⟩
            go_wp2_with fail
            generalize (wr.setCell ⟨w.heap.size, 0, none⟩ (.int .u8 (x % 256))) = W at HW HWB HWD ⊢
            go_region_with (go_at_call 168; refine (mdBuf d w.heap.size 1 _ [.int .u8 (x % 256)] W.drew HWD.out HWB.out (by simp [AnyBytes]) rfl (by omega) (by omega) (fun j v hj => by
              match j with
              | 0 => simpa using hj
              | _ + 1 => simp at hj)).mono ?_; rintro e w' ⟨rfl, hd', hk'⟩)
            all_goals
              have HD' := Lib.hid hd'
              have HK' : Hid (Kp [d] w w') := ((HKX.out.after HW.out (by intro i hi hm; simp at hm; omega)).trans (Kp.drew _ _)).trans hk'
              have HB' : Hid (∃ b0 b1 b2 : Int, w'.heap[w.heap.size]? = some (.cells #[.int .u8 b0, .int .u8 b1, .int .u8 b2] 202 (0, 0))) := ⟨_, _, _, hk'.at HWB.out (by simp; exact Nat.ne_of_gt HDN.out)⟩
              clear hd' hk'
              go_wp2_with fail
              go_roundw
              case rel => exact ⟨c + 1, by omega, by go_num, HD'.out, HK'.out, HB'.out⟩
              case measure => simp [intOf]; omega
          · -- two bytes
            have HW : Hid (Kp [w.heap.size] wr ((wr.setCell ⟨w.heap.size, 0, none⟩ (.int .u8 (x % 256))).setCell ⟨w.heap.size, 1, none⟩ (.int .u8 (x / 256 % 256)))) := (((Kp.refl [w.heap.size] wr).trans (Kp.setCell _ _ _ (by simp))).trans (Kp.setCell _ _ _ (by simp)))
            have HWB : Hid (((wr.setCell ⟨w.heap.size, 0, none⟩ (.int .u8 (x % 256))).setCell ⟨w.heap.size, 1, none⟩ (.int .u8 (x / 256 % 256))).heap[w.heap.size]? = some (.cells #[.int .u8 (x % 256), .int .u8 (x / 256 % 256), .int .u8 b2] 202 (0, 0))) := by
              show _ = _
              have := heap_set (i := 1) (v := .int .u8 (x / 256 % 256)) (heap_set (i := 0) (v := .int .u8 (x % 256)) (HBF.out))
              simpa using this
            have HWD : Hid (∃ nx, nx < 64 ∧ Dig d nx ((wr.setCell ⟨w.heap.size, 0, none⟩ (.int .u8 (x % 256))).setCell ⟨w.heap.size, 1, none⟩ (.int .u8 (x / 256 % 256)))) := by
              obtain ⟨nx, hnx, cs, hcs, hok⟩ := HDX.out
              exact ⟨nx, hnx, cs, HW.out.at hcs (by simp; exact Nat.ne_of_lt HDN.out), hok⟩
            go_wp2_with fail
            generalize ((wr.setCell ⟨w.heap.size, 0, none⟩ (.int .u8 (x % 256))).setCell ⟨w.heap.size, 1, none⟩ (.int .u8 (x / 256 % 256))) = W at HW HWB HWD ⊢
            go_region_with (go_at_call 168; refine (mdBuf d w.heap.size 2 _ [.int .u8 (x % 256), .int .u8 (x / 256 % 256)] W.drew HWD.out HWB.out (by simp [AnyBytes]) rfl (by omega) (by omega) (fun j v hj => by
              match j with
              | 0 => simpa using hj
              | 1 => simpa using hj
              | _ + 2 => simp at hj)).mono ?_; rintro e w' ⟨rfl, hd', hk'⟩)
            all_goals
              have HD' := Lib.hid hd'
              have HK' : Hid (Kp [d] w w') := ((HKX.out.after HW.out (by intro i hi hm; simp at hm; omega)).trans (Kp.drew _ _)).trans hk'
              have HB' : Hid (∃ b0 b1 b2 : Int, w'.heap[w.heap.size]? = some (.cells #[.int .u8 b0, .int .u8 b1, .int .u8 b2] 202 (0, 0))) := ⟨_, _, _, hk'.at HWB.out (by simp; exact Nat.ne_of_gt HDN.out)⟩
              clear hd' hk'
              go_wp2_with fail
              go_roundw
              case rel => exact ⟨c + 1, by omega, by go_num, HD'.out, HK'.out, HB'.out⟩
              case measure => simp [intOf]; omega
          · -- three bytes
            have HW : Hid (Kp [w.heap.size] wr (((wr.setCell ⟨w.heap.size, 0, none⟩ (.int .u8 (x % 256))).setCell ⟨w.heap.size, 1, none⟩ (.int .u8 (x / 256 % 256))).setCell ⟨w.heap.size, 2, none⟩ (.int .u8 (x / 65536 % 256)))) := ((((Kp.refl [w.heap.size] wr).trans (Kp.setCell _ _ _ (by simp))).trans (Kp.setCell _ _ _ (by simp))).trans (Kp.setCell _ _ _ (by simp)))
            have HWB : Hid ((((wr.setCell ⟨w.heap.size, 0, none⟩ (.int .u8 (x % 256))).setCell ⟨w.heap.size, 1, none⟩ (.int .u8 (x / 256 % 256))).setCell ⟨w.heap.size, 2, none⟩ (.int .u8 (x / 65536 % 256))).heap[w.heap.size]? = some (.cells #[.int .u8 (x % 256), .int .u8 (x / 256 % 256), .int .u8 (x / 65536 % 256)] 202 (0, 0))) := by
              show _ = _
              have := heap_set (i := 2) (v := .int .u8 (x / 65536 % 256)) (heap_set (i := 1) (v := .int .u8 (x / 256 % 256)) (heap_set (i := 0) (v := .int .u8 (x % 256)) (HBF.out)))
              simpa using this
            have HWD : Hid (∃ nx, nx < 64 ∧ Dig d nx (((wr.setCell ⟨w.heap.size, 0, none⟩ (.int .u8 (x % 256))).setCell ⟨w.heap.size, 1, none⟩ (.int .u8 (x / 256 % 256))).setCell ⟨w.heap.size, 2, none⟩ (.int .u8 (x / 65536 % 256)))) := by
              obtain ⟨nx, hnx, cs, hcs, hok⟩ := HDX.out
              exact ⟨nx, hnx, cs, HW.out.at hcs (by simp; exact Nat.ne_of_lt HDN.out), hok⟩
            go_wp2_with fail
            generalize (((wr.setCell ⟨w.heap.size, 0, none⟩ (.int .u8 (x % 256))).setCell ⟨w.heap.size, 1, none⟩ (.int .u8 (x / 256 % 256))).setCell ⟨w.heap.size, 2, none⟩ (.int .u8 (x / 65536 % 256))) = W at HW HWB HWD ⊢
            go_region_with (go_at_call 168; refine (mdBuf d w.heap.size 3 _ [.int .u8 (x % 256), .int .u8 (x / 256 % 256), .int .u8 (x / 65536 % 256)] W.drew HWD.out HWB.out (by simp [AnyBytes]) rfl (by omega) (by omega) (fun j v hj => by
              match j with
              | 0 => simpa using hj
              | 1 => simpa using hj
              | 2 => simpa using hj
              | _ + 3 => simp at hj)).mono ?_; rintro e w' ⟨rfl, hd', hk'⟩)
            all_goals
              have HD' := Lib.hid hd'
              have HK' : Hid (Kp [d] w w') := ((HKX.out.after HW.out (by intro i hi hm; simp at hm; omega)).trans (Kp.drew _ _)).trans hk'
              have HB' : Hid (∃ b0 b1 b2 : Int, w'.heap[w.heap.size]? = some (.cells #[.int .u8 b0, .int .u8 b1, .int .u8 b2] 202 (0, 0))) := ⟨_, _, _, hk'.at HWB.out (by simp; exact Nat.ne_of_gt HDN.out)⟩
              clear hd' hk'
              go_wp2_with fail
              go_roundw
              case rel => exact ⟨c + 1, by omega, by go_num, HD'.out, HK'.out, HB'.out⟩
              case measure => simp [intOf]; omega
        · obtain rfl : c = f.subs.length := by omega
          go_wp2_with fail
          go_roundw
          case rel => exact ⟨i + 1, by omega, by go_num, HDX.out, HKX.out, b0, b1, b2, hbf⟩
          case measure => simp [intOf]; omega
    · obtain rfl : i = n := by omega
      go_wp2_with fail
      go_end0
      exact ⟨rfl, HDX.out, HKX.out⟩
end Go.Proofs.YtemcpcgcnjahjaaGreatDoor
