/-
  laws.FnExact: what the encoder writes is what the reference says, whatever comes in.
-/
import Derived.Test.YtemcpcgcnjahjaaGreatDoorGenI
import Derived.Test.YtemcpcgcnjahjaaGreatDoorEncode
import Derived.Laws.IdiomStrings
namespace Go.Proofs.YtemcpcgcnjahjaaGreatDoor
open Go.RowKit

theorem NCh.kp {w w' : World} (h : NCh w) (k : Kp [] w w') : NCh w' := fun i hi => by
  have h1 := h i hi
  have hl := World.block_lt_of_cell? _ _ h1
  rw [World.cell?_of_block (k.block _ hl (by simp)), h1]
theorem DatAt.less {A : Option Addr} {n m : Nat} {w : World} (h : DatAt A n w) (hm : m ≤ n) : DatAt A m w := fun h0 => by
  obtain ⟨b, o, e, hc⟩ := h (by omega)
  exact ⟨b, o, e, fun j hj => hc j (by omega)⟩

/-- string(b), the bytes being told. -/
theorem conv_bytes {w : World} {B g cap n : Nat} {bs : List UInt8} (h : w.ownsRow B 5 1 (.slice (some ⟨g, 0, none⟩) bs.length cap) bs.length (Lib.byteCells bs)) (hn : bs.length = n) : ∀ w', Kp [] w w' → (Go.convert 23 9 (.slice (some ⟨g, 0, none⟩) n cap)).run Tryz.prog w' = .ok (.string ⟨bs.toArray⟩) w' := by
  subst hn
  intro w' k
  have h' := ownsRow_kp h k (fun _ _ => by simp)
  refine run_convert_bytes_back w' 23 9 5 ⟨g, 0, none⟩ cap bs Tryz.underlying23 Tryz.underlying5 Tryz.underlying9 fun j hj => ?_
  have h2 := h'.cells rfl j (.int .u8 (bs[j].toNat : Int)) (by simp [Lib.byteCells, hj])
  exact h2

set_option maxRecDepth 100000 in
set_option maxHeartbeats 8000000 in
/-- laws.FnExact. -/
theorem lawFn (F sn sc dn dc kn kc : Nat) (SA DA KA : Option Addr) (w : World) (hF : F < 4294967296) (hsc : sn ≤ sc) (hdc : dn ≤ dc)
    (hs : DatAt SA sn w) (hd : DatAt DA dn w) (hk : KindAt KA kn w) (hN : NCh w) :
    Calls Tryz.prog 3 #[.int .u32 F, .slice SA sn sc, .slice DA dn dc, .slice KA kn kc] w fun e w' => e = .returned (.bool true) ∧ Below w.heap.size w w' := by
  by_cases h1 : sn ≤ 2147483647
  · by_cases h2 : dn ≤ 2147483647
    · by_cases h3 : kn ≤ 2147483647
      · by_cases h4 : dn ≤ 1000 ∧ kn ≤ 100
        · obtain ⟨h5, h6⟩ := h4
          have HS := Bx.mk hs
          have HD := Bx.mk hd
          have HK := Bx.mk hk
          have HN := Bx.mk hN
          clear hs hd hk hN
          go_enter Tryz.func3, Tryz.ntmps3
          go_wp2_with fail
          refine (lawFewYes _ _ _ _ _ _ _ h5 h6).mono ?_
          rintro e w1 ⟨rfl, rfl⟩
          go_wp2_with fail
          refine (lawGiven F sn sc dn dc kn kc SA DA KA w1 hF h1 (HS.out.less (by omega)) hsc HD.out h5 hdc HK.out h6).mono ?_
          rintro e w2 ⟨i, va, fs, G, gcap, hi, hfs, rfl, hfa, hk2⟩
          have HFA := Bx.mk hfa
          have HK2 := Bx.mk hk2
          have HI := Bx.mk hi
          have HFS := Bx.mk hfs
          have HN2 := Bx.mk (HN.out.kp hk2)
          clear hfa hk2 hi hfs HS HD HK
          have HSE : Bx (∀ wz, FramesAt G fs wz → NCh wz → Calls Tryz.prog 6 #[i.v, .slice (some ⟨G, 0, none⟩) fs.length gcap] wz (Encoded (streamB i va fs fs.length) wz)) := ⟨fun wz h1 h2 => implEncode i va fs G gcap wz HI.out HFS.out h1 h2⟩
          have HSX : Bx (∀ wz, FramesAt G fs wz → Calls Tryz.prog 7 #[i.v, .slice (some ⟨G, 0, none⟩) fs.length gcap] wz (NewBytes (streamB i va fs fs.length) wz)) := ⟨fun wz h1 => lawExact i va fs G gcap wz HI.out HFS.out h1⟩
          generalize streamB i va fs fs.length = bs at HSE HSX
          unfold PInfo.v at HSE HSX
          simp only [PInfo.v]
          have HB3 := Bx.mk (heap_alloc_new w2 (.cells #[.int .i64 16, .int .i64 4096, .int .i64 0, .int .i64 0, .int .i64 i.rate, .int .i64 i.nch, .int .i64 i.bits, .int .u64 i.smp, .slice none 0 0] 28))
          have HK3 := Bx.mk (Kp.alloc [] w2 (.cells #[.int .i64 16, .int .i64 4096, .int .i64 0, .int .i64 0, .int .i64 i.rate, .int .i64 i.nch, .int .i64 i.bits, .int .u64 i.smp, .slice none 0 0] 28))
          go_wp2_with fail
          generalize w2.alloc (.cells #[.int .i64 16, .int .i64 4096, .int .i64 0, .int .i64 0, .int .i64 i.rate, .int .i64 i.nch, .int .i64 i.bits, .int .u64 i.smp, .slice none 0 0] 28) = w3 at HB3 HK3 ⊢
          refine (HSE.out _ (HFA.out.kp HK3.out) (HN2.out.kp HK3.out)).mono ?_
          rintro e w4 ⟨g1, cap1, rfl, hown1, hk4⟩
          have HC1 := Bx.mk (conv_bytes hown1 rfl)
          have HFA4 := Bx.mk ((HFA.out.kp HK3.out).kp (hk4.trans (Kp.drew [] w4)))
          have HB4 := hk4.at HB3.out (by simp)
          have HK4 := Bx.mk ((HK2.out.trans HK3.out).trans (hk4.trans (Kp.drew [] w4)))
          have b0 := Lib.cell_of_heap HB4 0
          have b1 := Lib.cell_of_heap HB4 1
          have b2 := Lib.cell_of_heap HB4 2
          have b3 := Lib.cell_of_heap HB4 3
          have b4 := Lib.cell_of_heap HB4 4
          have b5 := Lib.cell_of_heap HB4 5
          have b6 := Lib.cell_of_heap HB4 6
          have b7 := Lib.cell_of_heap HB4 7
          have b8 := Lib.cell_of_heap HB4 8
          simp only [List.getElem?_toArray, List.getElem?_cons_zero, List.getElem?_cons_succ] at b0 b1 b2 b3 b4 b5 b6 b7 b8
          have hc0 := HC1.out w4.drew (Kp.drew [] w4)
          clear hown1 hk4 HB4 HSE HN2 HFA HB3 HK2 HK3 HN HI HFS
          have HBL : Bx (bs.length = bs.length) := ⟨rfl⟩
          have HXX : Bx (∀ wz e w5, NewBytes bs wz e w5 → Kp [] w4 wz → ∃ g2 cap2, e = .returned (.slice (some ⟨g2, 0, none⟩) bs.length cap2) ∧ (Go.convert 23 9 (.slice (some ⟨g1, 0, none⟩) bs.length cap1)).run Tryz.prog w5 = .ok (.string ⟨bs.toArray⟩) w5 ∧ (Go.convert 23 9 (.slice (some ⟨g2, 0, none⟩) bs.length cap2)).run Tryz.prog w5 = .ok (.string ⟨bs.toArray⟩) w5 ∧ Kp [] wz w5) := ⟨by
            rintro wz e w5 ⟨g2, cap2, rfl, hown2, hk5⟩ hkz
            exact ⟨g2, cap2, rfl, HC1.out w5 (hkz.trans hk5), conv_bytes hown2 rfl w5 (Kp.refl _ _), hk5⟩⟩
          generalize (⟨bs.toArray⟩ : ByteArray) = S at hc0 HXX
          clear HC1
          go_upto_region 7 with fail
          go_region_with (go_at_call 7; refine (HSX.out _ HFA4.out).mono ?_; intro e w5 hnb; obtain ⟨g2, cap2, rfl, hq1, hq2, hk5⟩ := HXX.out _ e w5 hnb (Kp.drew [] w4); have HK5 := Bx.mk (HK4.out.trans hk5); clear hnb hk5)
          all_goals
            clear b0 b1 b2 b3 b4 b5 b6 b7 b8
            go_wp2_with fail
            go_ret
            refine ⟨?_, HK5.out.toBelow⟩
            simp [Act.put]
        · have h4' : 1000 < dn ∨ 100 < kn := by omega
          clear h4 hs hd hk hN
          go_enter Tryz.func3, Tryz.ntmps3
          go_wp2_with fail
          refine (lawFewNo _ _ _ _ _ _ _ h4').mono ?_
          rintro e w1 ⟨rfl, rfl⟩
          go_wp2_with fail
          go_ret
          exact ⟨rfl, Below.refl _ _⟩
      · have h3' : (2147483647 : Int) < (kn : Int) := by omega
        clear h3 hs hd hk hN
        go_enter Tryz.func3, Tryz.ntmps3
        go_wp2_with fail
        go_ret
        exact ⟨rfl, Below.refl _ _⟩
    · have h2' : (2147483647 : Int) < (dn : Int) := by omega
      clear h2 hs hd hk hN
      go_enter Tryz.func3, Tryz.ntmps3
      go_wp2_with fail
      go_ret
      exact ⟨rfl, Below.refl _ _⟩
  · have h1' : (2147483647 : Int) < (sn : Int) := by omega
    clear h1 hs hd hk hN
    go_enter Tryz.func3, Tryz.ntmps3
    go_wp2_with fail
    go_ret
    exact ⟨rfl, Below.refl _ _⟩
end Go.Proofs.YtemcpcgcnjahjaaGreatDoor
