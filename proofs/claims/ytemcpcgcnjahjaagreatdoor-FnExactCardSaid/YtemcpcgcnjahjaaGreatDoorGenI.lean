/-
  laws.givenOf: what it gives is sound.
-/
import Derived.Test.YtemcpcgcnjahjaaGreatDoorGenF
import Derived.Test.YtemcpcgcnjahjaaGreatDoorGenH
namespace Go.Proofs.YtemcpcgcnjahjaaGreatDoor
open Go.RowKit

theorem HeadsR.cell {r : RawP} {ns : List Nat} {g m cap B k n : Nat} {w : World} (h : HeadsR r ns (.slice (some ⟨g, 0, none⟩) m cap) B w) (hk : ns[k]? = some n) :
    ∃ rt num, ∀ (j : Nat) u, (rawCells r n rt num)[j]? = some u → w.cell? ⟨g, k * 6 + j, none⟩ = some u := by
  obtain ⟨g', cap', cells, e, hown, hc⟩ := h
  cases e
  obtain ⟨_, cur, hg, hx⟩ := ownsRow_at hown
  obtain ⟨rt, num, h2⟩ := hc k n hk
  exact ⟨rt, num, fun j u hj => (Lib.cell_of_heap hg _).trans (hx _ _ (h2 j u hj))⟩
theorem AllR.cell {r : RawP} {ns : List Nat} {g m cap B k n : Nat} {w : World} (h : AllR r ns (.slice (some ⟨g, 0, none⟩) m cap) B w) (hk : ns[k]? = some n) :
    ∃ a acap, w.cell? ⟨g, k, none⟩ = some (.slice (some ⟨a, 0, none⟩) (r.assign + 1) acap) ∧ ChansT r.top (r.assign + 1) n a w := by
  obtain ⟨g', cap', rows, e, hown, hc⟩ := h
  cases e
  obtain ⟨_, cur, hg, hx⟩ := ownsRow_at hown
  obtain ⟨a, acap, h1, h2⟩ := hc k n hk
  exact ⟨a, acap, (Lib.cell_of_heap hg _).trans (hx _ _ h1), h2⟩
theorem ChansT.cell {T : Int} {c n a d : Nat} {w : World} (h : ChansT T c n a w) (hd : d < c) :
    ∃ g cap xs, w.cell? ⟨a, d, none⟩ = some (.slice (some ⟨g, 0, none⟩) n cap) ∧ xs.length = n ∧ (∀ x ∈ xs, -T ≤ x ∧ x < T) ∧ IntAt g xs w := by
  obtain ⟨sc, h1, h2⟩ := h
  obtain ⟨g, cap, xs, h3, h4, h5, h6⟩ := h2 d hd
  exact ⟨g, cap, xs, (Lib.cell_of_heap h1 _).trans h3, h4, h5, h6⟩

theorem lawStreamX (X : Int) (F sn sc dn dc : Nat) (SA DA : Option Addr) (w : World) (hX : X = F) (hF : F < 4294967296) (hA : F / 64 % 11 < 8) (hsn : sn ≤ 2147483647) (hs : DatAt SA (min sn 3) w) (hsc : sn ≤ sc) (hd : DatAt DA dn w) (hdn : dn ≤ 1000) (hdc : dn ≤ dc) :
    Calls Tryz.prog 8 #[.int .u32 X, .slice SA sn sc, .slice DA dn dc, .slice none 0 0] w (Streamed w) := by
  subst hX
  exact lawStream F sn sc dn dc SA DA w hF hA hsn hs hsc hd hdn hdc

/-- Between the frames of givenOf. -/
structure OS (r : RawP) (ns : List Nat) (smp I B : Nat) (hv av : Value) (w : World) (fs : List PFrame) (ov : Value) (wx : World) : Prop where
  frames : FramesOwn w.heap.size fs ov wx
  inf : wx.heap[I]? = some (.cells #[.int .i64 16, .int .i64 4096, .int .i64 0, .int .i64 0, .int .i64 r.rate, .int .i64 ((r.assign : Int) + 1), .int .i64 r.bits, .int .u64 smp, .slice none 0 0] 37 (0, 0))
  res : wx.heap[w.heap.size]? = some (.cells #[.int .i64 0, .int .i64 0, .int .i64 0, .int .i64 0, .int .i64 0, .int .i64 0, .int .i64 0, .int .u64 0, .slice none 0 0] 28 (0, 0))
  heads : HeadsR r ns hv B wx
  all : AllR r ns av B wx
  kp : Kp [] w wx
theorem OS.keep {r : RawP} {ns : List Nat} {smp I B : Nat} {hv av ov : Value} {w wx wy : World} {fs : List PFrame} (h : OS r ns smp I B hv av w fs ov wx) (k : Kp [] wx wy) : OS r ns smp I B hv av w fs ov wy :=
  ⟨h.frames.kpT k (OfTy.nil _ [1]) (by decide), k.at h.inf (by simp), k.at h.res (by simp), h.heads.kpT k (OfTy.nil _ [1]) (by decide), h.all.kpT k (OfTy.nil _ [1]) (by decide), h.kp.trans k⟩
theorem OS.start {r : RawP} {ns : List Nat} {smp B : Nat} {hv av : Value} {w W0 w1 : World} (h0 : W0.heap[w.heap.size]? = some (.cells #[.int .i64 0, .int .i64 0, .int .i64 0, .int .i64 0, .int .i64 0, .int .i64 0, .int .i64 0, .int .u64 0, .slice none 0 0] 28 (0, 0))) (hk0 : Kp [] w W0) (hk1 : Kp [] W0 w1) (hh : HeadsR r ns hv B w1) (ha : AllR r ns av B w1) :
    OS r ns smp w1.heap.size B hv av w [] (.slice (some ⟨w1.heap.size + 1, 0, none⟩) 0 0) ((w1.alloc (.cells #[.int .i64 16, .int .i64 4096, .int .i64 0, .int .i64 0, .int .i64 r.rate, .int .i64 ((r.assign : Int) + 1), .int .i64 r.bits, .int .u64 smp, .slice none 0 0] 37)).alloc (.cells #[] 46)) := by
  have hsz := hk1.size
  have hsz0 := hk0.size
  have k2 : ∀ (X Y : Obj), Kp [] w1 ((w1.alloc X).alloc Y) := fun X Y => (Kp.alloc _ _ _).trans (Kp.alloc _ _ _)
  refine ⟨?_, heap_alloc (heap_alloc_new _ _), (k2 _ _).at (hk1.at h0 (by simp)) (by simp), hh.kpT (k2 _ _) (OfTy.nil _ [1]) (by decide), ha.kpT (k2 _ _) (OfTy.nil _ [1]) (by decide), (hk0.trans hk1).trans (k2 _ _)⟩
  have h := World.ownsRow_made (base := w.heap.size) (e := 46) (size := 7) (w1.alloc (.cells #[.int .i64 16, .int .i64 4096, .int .i64 0, .int .i64 0, .int .i64 r.rate, .int .i64 ((r.assign : Int) + 1), .int .i64 r.bits, .int .u64 smp, .slice none 0 0] 37)) #[] 0 (by simp only [World.size_alloc]; omega) (by decide) rfl
  rw [World.size_alloc] at h
  exact ⟨_, _, [], rfl, h, fun k f hk => by simp at hk⟩

theorem SH.drewN {wi w : World} {cs : Array Value} (h : SH wi cs w) (n : Nat) : SH wi cs (w.drewN n) := ⟨(Kp.drewN [] w n).at h.par (by simp), (Kp.drewN [] w n).at h.sub (by simp), h.kp.trans (Kp.drewN [] w n)⟩
/-- How many parts' steps a channel says. -/
def poAt (a : Nat) (w : World) : Nat := match w.cell? ⟨a, 7, none⟩ with
  | some (.int _ n) => n.toNat
  | _ => 0

theorem poAt_set {wi w : World} {cs : Array Value} {v : Int} (h : SH wi cs w) (h7 : 7 < cs.size) : poAt (wi.heap.size + 1) (w.setCell ⟨wi.heap.size + 1, 7, none⟩ (.int .i64 v)) = v.toNat := by
  unfold poAt
  rw [Lib.cell_of_heap (h.set 7 (.int .i64 v)).1.sub 7, Array.getElem?_setIfInBounds_self_of_lt h7]

set_option maxRecDepth 100000 in
set_option maxHeartbeats 8000000 in
/-- laws.givenOf. -/
theorem lawGiven (F sn sc dn dc kn kc : Nat) (SA DA KA : Option Addr) (w : World) (hF : F < 4294967296) (hsn : sn ≤ 2147483647) (hs : DatAt SA (min sn 3) w) (hsc : sn ≤ sc) (hd : DatAt DA dn w) (hdn : dn ≤ 1000) (hdc : dn ≤ dc) (hk : KindAt KA kn w) (hkn : kn ≤ 100) :
    Calls Tryz.prog 5 #[.int .u32 F, .slice SA sn sc, .slice DA dn dc, .slice KA kn kc] w (Given w) := by
  have HS := Bx.mk hs
  have HD := Bx.mk hd
  have HK := Bx.mk hk
  clear hs hd hk
  have HO := Bx.mk (heap_alloc_new w (.cells #[.int .i64 0, .int .i64 0, .int .i64 0, .int .i64 0, .int .i64 0, .int .i64 0, .int .i64 0, .int .u64 0, .slice none 0 0] 28))
  have HK0 := Bx.mk (Kp.alloc [] w (.cells #[.int .i64 0, .int .i64 0, .int .i64 0, .int .i64 0, .int .i64 0, .int .i64 0, .int .i64 0, .int .u64 0, .slice none 0 0] 28))
  go_enter Tryz.func5, Tryz.ntmps5
  go_upto_region 1 with fail
  generalize w.alloc (.cells #[.int .i64 0, .int .i64 0, .int .i64 0, .int .i64 0, .int .i64 0, .int .i64 0, .int .i64 0, .int .u64 0, .slice none 0 0] 28) = W0 at HO HK0 ⊢
  go_upto_region 2 with fail
  go_cut [10] from 29 to 36 (fun v wx => v = .int .u32 (F / 64 - (F / 64 % 11 - F / 64 % 11 % 8) : Nat) ∧ W0 = wx)
  case first =>
    clear HS HD HK HO HK0
    go_wp2_with fail
    go_meet
    case rel =>
      refine ⟨?_, rfl⟩
      congr 1
      omega
  case rest =>
    obtain ⟨rfl, rfl⟩ := hcut
    have hm1 : F / 64 - (F / 64 % 11 - F / 64 % 11 % 8) < 67108864 := by omega
    have hm2 : (F / 64 - (F / 64 % 11 - F / 64 % 11 % 8)) % 11 < 8 := by omega
    generalize F / 64 - (F / 64 % 11 - F / 64 % 11 % 8) = m at hm1 hm2
    go_wp2_with fail
    refine (lawStreamX _ (m * 64 + F % 64) sn sc dn dc SA DA W0 (by have h := bits_tail F m hF hm1; have e : (m : Int) * 64 % 4294967296 = (m : Int) * 64 := (by omega); rw [e] at h; exact h) (by omega) (by omega) hsn (HS.out.kp HK0.out) hsc (HD.out.kp HK0.out) hdn hdc).mono ?_
    rintro e w1 ⟨r, ns, smp, hv, av, bv, hr, hn3, hnb, hsmp, rfl, hh, ha, hk1⟩
    obtain ⟨gh, hcap, _, rfl, _, _⟩ := id hh
    obtain ⟨ga, acap, _, rfl, _, _⟩ := id ha
    have HOS := Bx.mk (OS.start (smp := smp) HO.out HK0.out hk1 hh ha)
    have HR := Bx.mk hr
    have HNB := Bx.mk hnb
    clear hh ha hk1 hr hnb HS HD HO HK0
    go_wp2_with fail
    generalize (w1.alloc (.cells #[.int .i64 16, .int .i64 4096, .int .i64 0, .int .i64 0, .int .i64 r.rate, .int .i64 ((r.assign : Int) + 1), .int .i64 r.bits, .int .u64 smp, .slice none 0 0] 37)).alloc (.cells #[] 46) = wA at HOS ⊢
    generalize hI : w1.heap.size = I at HOS ⊢
    clear hI
    go_loopw [15, 53] (fun ov j wx => ∃ fs : List PFrame, fs.length ≤ ns.length ∧ j = .int .i64 fs.length ∧ (∀ f ∈ fs, FGood r f) ∧ OS r ns smp I W0.heap.size (.slice (some ⟨gh, 0, none⟩) ns.length hcap) (.slice (some ⟨ga, 0, none⟩) ns.length acap) w fs ov wx) (fun _ j _ => ns.length - (intOf j).toNat)
    case atStart => exact ⟨[], by simp, rfl, by simp, HOS.out⟩
    case round =>
      clear HOS
      obtain ⟨wo, rfl⟩ : ∃ wo : World, wo = wr := ⟨_, rfl⟩
      obtain ⟨fs, hfl, rfl, hfg, hos⟩ := hrel
      have HFG := Bx.mk hfg
      have HOS := Bx.mk hos
      clear hfg hos
      generalize hkd : fs.length = k at hfl
      have HKD := Bx.mk hkd
      clear hkd
      by_cases hkn' : k < ns.length
      · have HKN := Bx.mk hkn'
        have hnk : ns[k]? = some ns[k] := List.getElem?_eq_getElem hkn'
        have hmem : ns[k] ∈ ns := List.getElem_mem hkn'
        generalize ns[k] = n at hnk hmem
        obtain ⟨hn1, hn2⟩ := HNB.out n hmem
        obtain ⟨rt, num, hcl⟩ := HOS.out.heads.cell hnk
        have c0 := hcl 0 (.bool r.va) rfl
        have c1 := hcl 1 (.int .i64 n) rfl
        have c2 := hcl 2 (.int .i64 rt) rfl
        have c3 := hcl 3 (.int .i64 r.assign) rfl
        have c4 := hcl 4 (.int .i64 r.bits) rfl
        have c5 := hcl 5 (.int .u64 num) rfl
        simp only [Nat.add_zero] at c0
        obtain ⟨a, aacap, hca, hct⟩ := HOS.out.all.cell hnk
        have HCT := Bx.mk hct
        have gal := World.block_lt_of_cell? _ _ hca
        have i4 := Lib.cell_of_heap HOS.out.inf 4
        have i6 := Lib.cell_of_heap HOS.out.inf 6
        have il := Lib.lt_of_heap HOS.out.inf
        simp only [List.getElem?_toArray, List.getElem?_cons_zero, List.getElem?_cons_succ] at i4 i6
        clear hcl hct hmem hnk
        have hf := heap_alloc_new (wo.alloc (.cells #[.bool r.va, .int .i64 n, .int .i64 rt, .int .i64 r.assign, .int .i64 r.bits, .int .u64 num] 43)) (.cells #[.bool r.va, .int .i64 n, .int .i64 r.rate, .int .i64 r.assign, .int .i64 r.bits, .int .u64 0, .slice none 0 0] 46)
        rw [World.size_alloc] at hf
        have HF0 := Bx.mk hf
        have HKB : Bx (Kp [] wo ((wo.alloc (.cells #[.bool r.va, .int .i64 n, .int .i64 rt, .int .i64 r.assign, .int .i64 r.bits, .int .u64 num] 43)).alloc (.cells #[.bool r.va, .int .i64 n, .int .i64 r.rate, .int .i64 r.assign, .int .i64 r.bits, .int .u64 0, .slice none 0 0] 46))) := ⟨(Kp.alloc _ _ _).trans (Kp.alloc _ _ _)⟩
        clear hf
        go_wp2_with fail
        clear c0 c1 c2 c3 c4 c5 hca gal i4 i6 il
        generalize (wo.alloc (.cells #[.bool r.va, .int .i64 n, .int .i64 rt, .int .i64 r.assign, .int .i64 r.bits, .int .u64 num] 43)).alloc (.cells #[.bool r.va, .int .i64 n, .int .i64 r.rate, .int .i64 r.assign, .int .i64 r.bits, .int .u64 0, .slice none 0 0] 46) = wB at HF0 HKB ⊢
        go_loopw [74] (fun j wx => ∃ (ss : List PSub) (sv : Value), ss.length ≤ r.assign + 1 ∧ j = .int .i64 ss.length ∧ (∀ s ∈ ss, SGood n s) ∧ wx.heap[wo.heap.size + 1]? = some (.cells #[.bool r.va, .int .i64 n, .int .i64 r.rate, .int .i64 r.assign, .int .i64 r.bits, .int .u64 0, sv] 46 (0, 0)) ∧ SubsOwn (wo.heap.size + 1 + 1) ss sv wx ∧ Kp [] wo wx) (fun j _ => r.assign + 1 - (intOf j).toNat)
        case atStart => exact ⟨[], _, by simp, rfl, by simp, HF0.out, SubsOwn.nil _ _, HKB.out⟩
        case round =>
          clear HF0 HKB
          obtain ⟨wi, rfl⟩ : ∃ wi : World, wi = wr := ⟨_, rfl⟩
          obtain ⟨ss, sv, hsl, rfl, hsg, hfb, hso, hki⟩ := hrel
          have HSG := Bx.mk hsg
          have HFB := Bx.mk hfb
          have HSO := Bx.mk hso
          have HKI := Bx.mk hki
          clear hsg hfb hso hki
          generalize hcd : ss.length = c at hsl
          have HCD := Bx.mk hcd
          clear hcd
          by_cases hcn' : c < r.assign + 1
          · have HCN := Bx.mk hcn'
            obtain ⟨g, gcap, xs, hcx, hxl, hxb, hxi⟩ := (HCT.out.kp HKI.out).cell hcn'
            have HXO : Bx (XsOk n r.bits xs) := ⟨⟨hxl, hn1, hn2, HR.out.bits, hxb⟩⟩
            have HXI := Bx.mk hxi
            have HXL := Bx.mk hxl
            have HIN := Bx.mk (HKI.out.at HOS.out.inf (by simp))
            have HKW := Bx.mk (HK.out.kp (HOS.out.kp.trans HKI.out))
            have hcb : ((c : Int) < (r.assign : Int) + 1) = True := by
              rw [eq_iff_iff, iff_true]; omega
            clear hxl hxb hxi
            go_upto_if 81 with fail
            clear hcx
            go_cut [21] from 81 to 90 (fun v wx => ∃ x : Nat, x < 65536 ∧ v = .int .u16 x ∧ wi = wx)
            case first =>
              have hc8 : c < 8 := by have := HR.out.assign; omega
              have hk8 : k < 3 := by omega
              clear HXO HXI HXL HIN HCN HSG HFB HSO HKI HCD HCT HFG HOS HKD HKN HR HNB
              by_cases hk0 : kn = 0
              · subst hk0
                go_wp2_with fail
                go_meet
                case rel => exact ⟨1, by omega, rfl, rfl⟩
              · obtain ⟨kb, ko, rfl, hkc⟩ := HKW.out (by omega)
                have hml := Nat.mod_lt (c + k) (show 0 < kn by omega)
                obtain ⟨x, hx, hcx2⟩ := hkc ((c + k) % kn) hml
                have hmod : Int.tmod ((c : Int) + (k : Int)) (kn : Int) = (((c + k) % kn : Nat) : Int) := by
                  rw [← Int.natCast_add, Int.tmod_eq_emod_of_nonneg (by omega)]; rfl
                have hnz : ((kn : Int) == 0) = false := by simp; omega
                clear HKW HK
                generalize (c + k) % kn = md at hmod hml hcx2
                have hm0 : (0 : Int) ≤ (md : Int) := by omega
                have hm1 : (md : Int) < (kn : Int) := by omega
                clear hkc
                go_wp2_with fail
                go_meet
                case rel => exact ⟨x, hx, rfl, rfl⟩
            case rest =>
              obtain ⟨x, hx, rfl, rfl⟩ := hcut
              clear HKW
              have h3 : Int.tmod (x : Int) 3 = ((x % 3 : Nat) : Int) := by rw [Int.tmod_eq_emod_of_nonneg (by omega)]; rfl
              have h3b : (x : Int) % 3 = ((x % 3 : Nat) : Int) := by omega
              have hk3 : x % 3 ≤ 2 := by omega
              generalize x % 3 = kd at h3 h3b hk3
              have hs2 := heap_alloc_new (wi.alloc (.cells #[.int .i64 4] 3)) (.cells #[.int .i64 kd, .int .i64 0, .int .i64 0, .slice none 0 0, .slice none 0 0, .int .i64 0, .int .i64 0, .int .i64 0, .slice (some ⟨wi.heap.size, 0, none⟩) 1 1] 52)
              rw [World.size_alloc] at hs2
              have HSH0 : Bx (SH wi #[.int .i64 kd, .int .i64 0, .int .i64 0, .slice none 0 0, .slice none 0 0, .int .i64 0, .int .i64 0, .int .i64 0, .slice (some ⟨wi.heap.size, 0, none⟩) 1 1] ((wi.alloc (.cells #[.int .i64 4] 3)).alloc (.cells #[.int .i64 kd, .int .i64 0, .int .i64 0, .slice none 0 0, .slice none 0 0, .int .i64 0, .int .i64 0, .int .i64 0, .slice (some ⟨wi.heap.size, 0, none⟩) 1 1] 52))) := ⟨⟨heap_alloc (heap_alloc_new _ _), hs2, (Kp.alloc _ _ _).trans (Kp.alloc _ _ _)⟩⟩
              clear hs2
              go_wp2_with fail
              clear h3 h3b
              generalize (wi.alloc (.cells #[.int .i64 4] 3)).alloc (.cells #[.int .i64 kd, .int .i64 0, .int .i64 0, .slice none 0 0, .slice none 0 0, .int .i64 0, .int .i64 0, .int .i64 0, .slice (some ⟨wi.heap.size, 0, none⟩) 1 1] 52) = wS at HSH0 ⊢
              go_loopw [23, 98] (fun sm j wx => ∃ (t : Nat) (v3 : Value) (b : Bool), t ≤ n ∧ j = .int .i64 t ∧ sm = .bool b ∧ (b = true → ∀ i, i < t → xs.getD i 0 = xs.getD 0 0) ∧ SH wi #[.int .i64 kd, .int .i64 0, .int .i64 0, v3, .slice none 0 0, .int .i64 0, .int .i64 0, .int .i64 0, .slice (some ⟨wi.heap.size, 0, none⟩) 1 1] wx ∧ wx.ownsRow (wi.heap.size + 1 + 1) 21 1 v3 t (i32V (xs.take t))) (fun _ j _ => n - (intOf j).toNat)
              case atStart => exact ⟨0, .slice none 0 0, true, by omega, rfl, rfl, fun _ i hi => absurd hi (by omega), HSH0.out, by simpa [i32V] using World.ownsRow_nil _ _ _ _⟩
              case round =>
                clear HSH0
                obtain ⟨wm, rfl⟩ : ∃ wm : World, wm = wr := ⟨_, rfl⟩
                obtain ⟨t, v3, b, ht, rfl, rfl, hbs, hsh, hown⟩ := hrel
                have HBS := Bx.mk hbs
                have HSH := Bx.mk hsh
                have HOW := Bx.mk hown
                clear hbs hsh hown
                by_cases htn : t < n
                · have HTN := Bx.mk htn
                  have hl : t < xs.length := by have := HXL.out; omega
                  have hcell := (HXI.out.kp HSH.out.kp (by simp)).get t hl
                  have hxm : -8388608 ≤ xs.getD t 0 ∧ xs.getD t 0 < 8388608 := by
                    refine HXO.out.mid _ ?_
                    rw [List.getD_eq_getElem?_getD, List.getElem?_eq_getElem hl]
                    exact List.getElem_mem hl
                  have HT : Bx (i32V (xs.take (t + 1)) = i32V (xs.take t) ++ [.int .i32 (xs.getD t 0)]) := by
                    constructor
                    rw [List.take_succ_eq_append_getElem hl, i32V_snoc, List.getD_eq_getElem?_getD, List.getElem?_eq_getElem hl]
                    rfl
                  obtain ⟨x0, hx0⟩ : ∃ x0, xs.getD 0 0 = x0 := ⟨_, rfl⟩
                  have HBT : Bx (∀ b', (b' = true → b = true ∧ xs.getD t 0 = x0) → b' = true → ∀ i, i < t + 1 → xs.getD i 0 = xs.getD 0 0) := ⟨fun b' h hb' i hi => by
                    rcases Nat.lt_or_ge i t with h1 | h1
                    · exact HBS.out (h hb').1 i h1
                    · obtain rfl : i = t := by omega
                      rw [hx0]
                      exact (h hb').2⟩
                  generalize xs.getD t 0 = x1 at hcell HT hxm HBT
                  obtain ⟨hxm1, hxm2⟩ := hxm
                  have HX0 : Bx (∀ wz, Kp [] wi wz → wz.cell? ⟨g, 0, none⟩ = some (.int .i64 x0)) := ⟨fun wz hz => by
                    rw [← hx0]
                    exact (HXI.out.kp hz (by simp)).get 0 (by omega)⟩
                  clear hx0 HBS hl
                  have HOA := Bx.mk (HOW.out.alloc (.cells #[.int .i32 x1] 21))
                  have gl := Lib.lt_of_heap HSH.out.sub
                  have HSZ : Bx (wi.heap.size + 1 + 1 ≤ (wm.alloc (.cells #[.int .i32 x1] 21)).heap.size) := by
                    constructor
                    simp only [World.size_alloc]; omega
                  obtain ⟨i0, hi, hz0, hz1, hz2⟩ := info_parts Tryz.info21
                  have q3 := Lib.cell_of_heap HSH.out.sub 3
                  have f3 := Lib.frozen_of_heap HSH.out.sub 3
                  simp only [List.getElem?_toArray, List.getElem?_cons_zero, List.getElem?_cons_succ] at q3
                  go_wp2_with (at_builtin; refine wpList_append_lies _ rfl (.tmp 103) (.tmp 106) 50 rfl (wi.heap.size + 1 + 1) 21 i0 (.int .i32 0) 1 4 Tryz.underlying50 hi hz0 hz1 hz2 rfl (by decide) v3 t _ (by simp [Act.eval]) HOA.out ⟨wm.heap.size, 0, none⟩ 1 1 [.int .i32 x1] (by simp [Act.eval]) rfl (cell_one_new _ _ _) (by simp [Value.oneCell']) (by decide) (by unfold maxLen; omega) (by omega) HSZ.out _ rfl ?_)
                  intro g4 cap4 w2 hown1 hgrow hat hlt
                  rw [← HT.out] at hown1
                  have HPU := Bx.mk (SH.push (i := 3) HSH.out HOW.out (by omega) hgrow hown1 (by decide))
                  have q3' := Lib.cell_of_heap HPU.out.2.2.2.2 3
                  have f3' := Lib.frozen_of_heap HPU.out.2.2.2.2 3
                  simp only [List.getElem?_toArray, List.getElem?_cons_zero, List.getElem?_cons_succ] at q3'
                  have hc0 := HX0.out _ HPU.out.1.kp
                  clear q3 f3 gl hcell hown1 hgrow hat hlt HOA HSZ HT HSH HOW hxm1 hxm2
                  cases b
                  · go_wp2_with fail
                    go_roundw
                    case rel => exact ⟨t + 1, _, false, HTN.out, by go_num, rfl, HBT.out false (fun h => by cases h), HPU.out.1, HPU.out.2.1⟩
                    case measure =>
                      have := HTN.out
                      simp [intOf]; omega
                  · go_wp2_with fail
                    go_roundw
                    case rel => exact ⟨t + 1, _, _, HTN.out, by go_num, rfl, HBT.out _ (fun h => ⟨rfl, by simpa using h⟩), HPU.out.1, HPU.out.2.1⟩
                    case measure =>
                      have := HTN.out
                      simp [intOf]; omega
                · obtain rfl : n = t := by omega
                  rw [List.take_of_length_le (by have := HXL.out; omega)] at HOW
                  obtain ⟨g2, gcap2, rfl, hg2, hg2l⟩ := HOW.out.form (by omega)
                  have HGI := Bx.mk (own_i32 HOW.out)
                  have HGC := Bx.mk (ownsRow_at HOW.out).1
                  clear HOW
                  have s0 := Lib.cell_of_heap HSH.out.sub 0
                  have f0 := Lib.frozen_of_heap HSH.out.sub 0
                  have i6 := Lib.cell_of_heap (HSH.out.kp.at HIN.out (by simp)) 6
                  simp only [List.getElem?_toArray, List.getElem?_cons_zero, List.getElem?_cons_succ] at s0 i6
                  go_upto_region 23 with fail
                  go_cut [129] from 118 to 129 (fun v wx => v = .bool (decide ((kd = 0 ∧ b = false) ∨ 22 < r.bits)) ∧ wm = wx)
                  case first =>
                    clear HXO HXI HXL HIN HCN HSG HFB HSO HKI HCD HCT HFG HOS HKD HKN HR HNB HK HSH HGI HGC HBS f0
                    by_cases hb22 : 22 < r.bits
                    · have hbI : ((22 : Int) < (r.bits : Int)) = True := by rw [eq_iff_iff, iff_true]; omega
                      rcases (by omega : kd = 0 ∨ kd = 1 ∨ kd = 2) with rfl | rfl | rfl
                      all_goals
                        cases b
                        all_goals
                          go_wp2_with fail
                          go_meet
                          case rel => exact ⟨by simp [hb22], rfl⟩
                    · have hbI : ((22 : Int) < (r.bits : Int)) = False := by rw [eq_iff_iff, iff_false]; omega
                      rcases (by omega : kd = 0 ∨ kd = 1 ∨ kd = 2) with rfl | rfl | rfl
                      all_goals
                        cases b
                        all_goals
                          go_wp2_with fail
                          go_meet
                          case rel => exact ⟨by simp [hb22], rfl⟩
                  case rest =>
                    obtain ⟨rfl, rfl⟩ := hcut
                    clear s0 i6
                    generalize hq : decide ((kd = 0 ∧ b = false) ∨ 22 < r.bits) = q
                    have HQ := Bx.mk hq
                    clear hq
                    go_upto_if 129 with fail
                    go_cut [] from 129 to 130 (fun wx => ∃ kd2 : Nat, kd2 ≤ 2 ∧ (kd2 = 0 → b = true) ∧ (kd2 = 2 → r.bits ≤ 22) ∧ SH wi #[.int .i64 kd2, .int .i64 0, .int .i64 0, .slice (some ⟨g2, 0, none⟩) n gcap2, .slice none 0 0, .int .i64 0, .int .i64 0, .int .i64 0, .slice (some ⟨wi.heap.size, 0, none⟩) 1 1] wx ∧ Kp [wi.heap.size + 1] wm wx)
                    case first =>
                      have HST := Bx.mk (HSH.out.set 0 (.int .i64 1))
                      have s0 := Lib.cell_of_heap HSH.out.sub 0
                      simp only [List.getElem?_toArray, List.getElem?_cons_zero] at s0
                      clear HXO HXI HXL HIN HCN HSG HFB HSO HKI HCD HCT HFG HOS HKD HKN HR HNB HK HGI HGC HBS
                      cases q
                      · go_wp2_with fail
                        go_meet
                        case rel =>
                          have h := HQ.out
                          rw [decide_eq_false_iff_not] at h
                          refine ⟨kd, hk3, fun h0 => ?_, fun h2 => ?_, HSH.out, Kp.refl _ _⟩
                          · cases hb : b
                            · exact absurd (.inl ⟨h0, hb⟩) h
                            · rfl
                          · rcases Nat.lt_or_ge 22 r.bits with h1 | h1
                            · exact absurd (.inr h1) h
                            · exact h1
                      · go_wp2_with fail
                        go_meet
                        case rel => exact ⟨1, by omega, by omega, by omega, HST.out.1, HST.out.2⟩
                    case rest =>
                      obtain ⟨kd2, hk2, hk20, hk22, hsh, hkm⟩ := hcut
                      clear f0 HSH HQ
                      have HSH := Bx.mk hsh
                      have HK20 := Bx.mk hk20
                      have HK22 := Bx.mk hk22
                      have HGI2 := Bx.mk (HGI.out.kp hkm (fun hm => by
                        obtain rfl : g2 = wi.heap.size + 1 := by simpa using hm
                        omega))
                      clear hsh hk20 hk22 hkm HGI
                      have s0 := Lib.cell_of_heap HSH.out.sub 0
                      simp only [List.getElem?_toArray, List.getElem?_cons_zero] at s0
                      go_upto_if 133 with fail
                      clear s0
                      go_cut [26] from 133 to 204 (fun _ wx => SubDone n wi wx)
                      case first =>
                        clear HXI HCN HSG HFB HSO HKI HCD HCT HFG HOS HKD HKN HNB HK
                        by_cases h2 : kd2 = 2
                        · subst h2
                          have f1 := Lib.frozen_of_heap HSH.out.sub 1
                          have f7 := Lib.frozen_of_heap HSH.out.sub 7
                          have s1 := Lib.cell_of_heap HSH.out.sub 1
                          have s7 := Lib.cell_of_heap HSH.out.sub 7
                          simp only [List.getElem?_toArray, List.getElem?_cons_zero, List.getElem?_cons_succ] at s1 s7
                          have hord : min ((x : Int) / 4 % 5) ((n : Int) - 1) = ((min (x / 4 % 5) (n - 1) : Nat) : Int) := by omega
                          have ho4 : min (x / 4 % 5) (n - 1) ≤ 4 := by omega
                          have hon : min (x / 4 % 5) (n - 1) < n := by omega
                          generalize min (x / 4 % 5) (n - 1) = ord at hord ho4 hon
                          have hpo : (x : Int) / 32 % 3 = ((x / 32 % 3 : Nat) : Int) := by omega
                          have hp0 : x / 32 % 3 ≤ 2 := by omega
                          generalize x / 32 % 3 = p0 at hpo hp0
                          have hs1 := HSH.out.set 1 (.int .i64 ord)
                          have hs2 := hs1.1.set 7 (.int .i64 p0)
                          have HSH4 : Bx (SH wi #[.int .i64 2, .int .i64 ord, .int .i64 0, .slice (some ⟨g2, 0, none⟩) n gcap2, .slice none 0 0, .int .i64 0, .int .i64 0, .int .i64 p0, .slice (some ⟨wi.heap.size, 0, none⟩) 1 1] ((wc.setCell ⟨wi.heap.size + 1, 1, none⟩ (.int .i64 ord)).setCell ⟨wi.heap.size + 1, 7, none⟩ (.int .i64 p0))) := ⟨hs2.1⟩
                          have HGI4 := Bx.mk (HGI2.out.kpT (hs1.2.trans hs2.2) (one_ty HSH.out.sub) (by decide))
                          clear hs1 hs2
                          go_upto_block 6 with fail
                          clear hord hpo f1 f7 s1 s7
                          generalize (wc.setCell ⟨wi.heap.size + 1, 1, none⟩ (.int .i64 ord)).setCell ⟨wi.heap.size + 1, 7, none⟩ (.int .i64 p0) = wp at HSH4 HGI4 ⊢
                          go_cut [] from 148 to 173 (fun wx => ∃ p : Nat, p ≤ 2 ∧ (p = 0 ∨ (n % 2 ^ p = 0 ∧ ord < n / 2 ^ p)) ∧ SH wi #[.int .i64 2, .int .i64 ord, .int .i64 0, .slice (some ⟨g2, 0, none⟩) n gcap2, .slice none 0 0, .int .i64 0, .int .i64 0, .int .i64 p, .slice (some ⟨wi.heap.size, 0, none⟩) 1 1] wx ∧ I32At g2 xs wx)
                          case first =>
                            clear HXO HXL HGC HBS HSH HGI2 HK20 HK22 HR
                            go_wp2_with fail
                            go_loopw [] (fun wx => ∃ p : Nat, p ≤ 2 ∧ SH wi #[.int .i64 2, .int .i64 ord, .int .i64 0, .slice (some ⟨g2, 0, none⟩) n gcap2, .slice none 0 0, .int .i64 0, .int .i64 0, .int .i64 p, .slice (some ⟨wi.heap.size, 0, none⟩) 1 1] wx ∧ I32At g2 xs wx) (fun wx => poAt (wi.heap.size + 1) wx)
                            case atStart => exact ⟨p0, hp0, HSH4.out, HGI4.out⟩
                            case round =>
                              clear HSH4 HGI4 hp0
                              obtain ⟨p, hp, hsh, hgi⟩ := hrel
                              have HSHp := Bx.mk hsh
                              have HGIp := Bx.mk hgi
                              clear hsh hgi
                              have f7 := Lib.frozen_of_heap HSHp.out.sub 7
                              have s1 := Lib.cell_of_heap HSHp.out.sub 1
                              have s7 := Lib.cell_of_heap HSHp.out.sub 7
                              simp only [List.getElem?_toArray, List.getElem?_cons_zero, List.getElem?_cons_succ] at s1 s7
                              have HPO : Bx (poAt (wi.heap.size + 1) wr = p) := ⟨by unfold poAt; rw [s7]; simp⟩
                              rcases (by omega : p = 0 ∨ p = 1 ∨ p = 2) with hpp | hpp | hpp
                              · subst hpp
                                go_wp2_with fail
                                go_quiet (fail)
                                go_wp2_with fail
                                go_meet
                                case rel => exact ⟨0, by omega, .inl rfl, HSHp.out.drewN nq, HGIp.out.drewN nq⟩
                              · subst hpp
                                by_cases hr : n % 2 = 0
                                · have hrr : (n : Int) % 2 = 0 := by omega
                                  by_cases hq : n / 2 ≤ ord
                                  · have hqq : (n : Int) / 2 ≤ (ord : Int) := by omega
                                    have HR2 := Bx.mk hr
                                    have HQ2 := Bx.mk hq
                                    clear hr hq
                                    go_wp2_with fail
                                    go_quiet (fail)
                                    go_wp2_with fail
                                    exact ⟨⟨0, by omega, ((HSHp.out.drewN nq).set 7 _).1, (HGIp.out.drewN nq).kpT ((HSHp.out.drewN nq).set 7 _).2 (one_ty (HSHp.out.drewN nq).sub) (by decide)⟩, by rw [HPO.out, poAt_set (HSHp.out.drewN nq) (by simp)]; decide⟩
                                  · have hqq : decide ((n : Int) / 2 ≤ (ord : Int)) = false := by
                                      rw [decide_eq_false_iff_not]; omega
                                    have hqr : (ord : Int) < (n : Int) / 2 := by omega
                                    have HR2 := Bx.mk hr
                                    have HQ2 := Bx.mk hq
                                    clear hr hq
                                    go_wp2_with fail
                                    go_quiet (fail)
                                    go_wp2_with fail
                                    go_meet
                                    case rel => exact ⟨1, by omega, .inr ⟨HR2.out, Nat.lt_of_not_le HQ2.out⟩, HSHp.out.drewN nq, HGIp.out.drewN nq⟩
                                · have hrr : (n : Int) % 2 = 1 := by omega
                                  clear hr
                                  go_wp2_with fail
                                  go_quiet (fail)
                                  go_wp2_with fail
                                  exact ⟨⟨0, by omega, ((HSHp.out.drewN nq).set 7 _).1, (HGIp.out.drewN nq).kpT ((HSHp.out.drewN nq).set 7 _).2 (one_ty (HSHp.out.drewN nq).sub) (by decide)⟩, by rw [HPO.out, poAt_set (HSHp.out.drewN nq) (by simp)]; decide⟩
                              · subst hpp
                                by_cases hr : n % 4 = 0
                                · have hrr : (n : Int) % 4 = 0 := by omega
                                  by_cases hq : n / 4 ≤ ord
                                  · have hqq : (n : Int) / 4 ≤ (ord : Int) := by omega
                                    have HR2 := Bx.mk hr
                                    have HQ2 := Bx.mk hq
                                    clear hr hq
                                    go_wp2_with fail
                                    go_quiet (fail)
                                    go_wp2_with fail
                                    exact ⟨⟨1, by omega, ((HSHp.out.drewN nq).set 7 _).1, (HGIp.out.drewN nq).kpT ((HSHp.out.drewN nq).set 7 _).2 (one_ty (HSHp.out.drewN nq).sub) (by decide)⟩, by rw [HPO.out, poAt_set (HSHp.out.drewN nq) (by simp)]; decide⟩
                                  · have hqq : decide ((n : Int) / 4 ≤ (ord : Int)) = false := by
                                      rw [decide_eq_false_iff_not]; omega
                                    have hqr : (ord : Int) < (n : Int) / 4 := by omega
                                    have HR2 := Bx.mk hr
                                    have HQ2 := Bx.mk hq
                                    clear hr hq
                                    go_wp2_with fail
                                    go_quiet (fail)
                                    go_wp2_with fail
                                    go_meet
                                    case rel => exact ⟨2, by omega, .inr ⟨HR2.out, Nat.lt_of_not_le HQ2.out⟩, HSHp.out.drewN nq, HGIp.out.drewN nq⟩
                                · rcases (by omega : (n : Int) % 4 = 1 ∨ (n : Int) % 4 = 2 ∨ (n : Int) % 4 = 3) with hrr | hrr | hrr
                                  all_goals
                                    clear hr
                                    go_wp2_with fail
                                    go_quiet (fail)
                                    go_wp2_with fail
                                    exact ⟨⟨1, by omega, ((HSHp.out.drewN nq).set 7 _).1, (HGIp.out.drewN nq).kpT ((HSHp.out.drewN nq).set 7 _).2 (one_ty (HSHp.out.drewN nq).sub) (by decide)⟩, by rw [HPO.out, poAt_set (HSHp.out.drewN nq) (by simp)]; decide⟩
                          case rest =>
                            obtain ⟨p, hp, hpd, hsh, hgi⟩ := hcut
                            clear HSH4 HGI4 HSH HGI2
                            have HSH := Bx.mk hsh
                            have HGI2 := Bx.mk hgi
                            have HPD := Bx.mk hpd
                            clear hsh hgi hpd
                            have f8 := Lib.frozen_of_heap HSH.out.sub 8
                            have s7 := Lib.cell_of_heap HSH.out.sub 7
                            have s8 := Lib.cell_of_heap HSH.out.sub 8
                            simp only [List.getElem?_toArray, List.getElem?_cons_zero, List.getElem?_cons_succ] at s7 s8
                            go_upto_region 31 with fail
                            clear f8 s8
                            have hs1 := HSH.out.set 8 (.slice none 0 0)
                            have HSH5 : Bx (SH wi #[.int .i64 2, .int .i64 ord, .int .i64 0, .slice (some ⟨g2, 0, none⟩) n gcap2, .slice none 0 0, .int .i64 0, .int .i64 0, .int .i64 p, .slice none 0 0] _) := ⟨hs1.1⟩
                            have HGI5 := Bx.mk (HGI2.out.kpT hs1.2 (one_ty HSH.out.sub) (by decide))
                            have s7' := Lib.cell_of_heap HSH5.out.sub 7
                            simp only [List.getElem?_toArray, List.getElem?_cons_zero, List.getElem?_cons_succ] at s7'
                            clear hs1 HSH HGI2 s7
                            generalize wc.setCell ⟨wi.heap.size + 1, 8, none⟩ (.slice none 0 0) = wq at HSH5 HGI5 s7' ⊢
                            go_cut [177, 178] from 175 to 178 (fun cv j wx => cv = .int .i64 (2 ^ p : Nat) ∧ j = .int .i64 0 ∧ wq = wx)
                            case first =>
                              clear HXO HXL HGC HBS HK20 HK22 HR HSH5 HGI5 HPD
                              rcases (by omega : p = 0 ∨ p = 1 ∨ p = 2) with rfl | rfl | rfl
                              all_goals
                                go_wp2_with fail
                                go_meet
                                case rel => exact ⟨rfl, rfl, rfl⟩
                            case rest =>
                              obtain ⟨rfl, rfl, rfl⟩ := hcut
                              clear s7'
                              have hM4 : 2 ^ p ≤ 4 := by rcases (by omega : p = 0 ∨ p = 1 ∨ p = 2) with rfl | rfl | rfl <;> decide
                              generalize hMe : 2 ^ p = M at hM4
                              have HME := Bx.mk hMe
                              clear hMe
                              have hbb : r.bits = 8 ∨ r.bits = 12 ∨ r.bits = 16 ∨ r.bits = 20 := by
                                have h1 := HXO.out.bps
                                have h2 := HK22.out (by first | trivial | rfl)
                                unfold BpsOk at h1
                                omega
                              have hlo : max ((r.bits : Int) - 8) 4 = ((loOf r.bits : Nat) : Int) := by unfold loOf; omega
                              have hlo1 : 4 ≤ loOf r.bits := by unfold loOf; omega
                              have hlo2 : loOf r.bits ≤ 12 := by unfold loOf; omega
                              have HLO : Bx (∃ lo, lo = loOf r.bits) := ⟨_, rfl⟩
                              generalize hlg : loOf r.bits = lo at hlo hlo1 hlo2
                              have HLG := Bx.mk hlg
                              clear hlg HLO
                              go_wp2_with fail
                              go_loopw [178] (fun j wx => ∃ (ps : List Nat) (v8 : Value), ps.length ≤ M ∧ j = .int .i64 ps.length ∧ (∀ q ∈ ps, lo ≤ q ∧ q ≤ 14) ∧ SH wi #[.int .i64 2, .int .i64 ord, .int .i64 0, .slice (some ⟨g2, 0, none⟩) n gcap2, .slice none 0 0, .int .i64 0, .int .i64 0, .int .i64 p, v8] wx ∧ wx.ownsRow (wi.heap.size + 1 + 1) 3 1 v8 ps.length (intsV (ps.map Int.ofNat)) ∧ I32At g2 xs wx) (fun j _ => M - (intOf j).toNat)
                              case atStart => exact ⟨[], .slice none 0 0, by simp, rfl, by simp, HSH5.out, by simpa [intsV] using World.ownsRow_nil _ _ _ _, HGI5.out⟩
                              case round =>
                                clear HSH5 HGI5
                                obtain ⟨wy, rfl⟩ : ∃ wy : World, wy = wr := ⟨_, rfl⟩
                                obtain ⟨ps, v8, hpl, rfl, hpb, hsh, hown, hgi⟩ := hrel
                                have HSH := Bx.mk hsh
                                have HOW := Bx.mk hown
                                have HGI := Bx.mk hgi
                                have HPB := Bx.mk hpb
                                clear hsh hown hgi hpb
                                generalize htd : ps.length = t at hpl HOW
                                have HTD := Bx.mk htd
                                clear htd
                                by_cases htn : t < M
                                · have HTN := Bx.mk htn
                                  have htb : ((t : Int) < (M : Int)) = True := by
                                    rw [eq_iff_iff, iff_true]; omega
                                  go_upto_region 34 with fail
                                  have hq1 : (x : Int) / 256 % (2 + (t : Int)) = ((x / 256 % (2 + t) : Nat) : Int) := by
                                    rw [show (2 + (t : Int)) = ((2 + t : Nat) : Int) from rfl, show ((x : Int) / 256) = ((x / 256 : Nat) : Int) from rfl]; rfl
                                  have hq1t : Int.tmod ((x : Int) / 256) (2 + (t : Int)) = ((x / 256 % (2 + t) : Nat) : Int) := by rw [Int.tmod_eq_emod_of_nonneg (by omega), hq1]
                                  generalize x / 256 % (2 + t) = q1 at hq1 hq1t
                                  have hm15 : max 1 ((15 : Int) - (lo : Int)) = ((15 - lo : Nat) : Int) := by omega
                                  have hmm0 : 0 < 15 - lo := by omega
                                  have hmm : 15 - lo + lo = 15 := by omega
                                  generalize 15 - lo = mm at hm15 hmm0 hmm
                                  have hq2 : (q1 : Int) % (mm : Int) = ((q1 % mm : Nat) : Int) := rfl
                                  have hq2t : Int.tmod (q1 : Int) (mm : Int) = ((q1 % mm : Nat) : Int) := by rw [Int.tmod_eq_emod_of_nonneg (by omega)]; rfl
                                  have hq2l : q1 % mm < mm := Nat.mod_lt _ hmm0
                                  generalize q1 % mm = q2 at hq2 hq2t hq2l
                                  have hz1 : ((2 : Int) + (t : Int) = 0) = False := by rw [eq_iff_iff, iff_false]; omega
                                  have hz2 : ((mm : Int) = 0) = False := by rw [eq_iff_iff, iff_false]; omega
                                  have hz3 : (mm = 0) = False := by rw [eq_iff_iff, iff_false]; omega
                                  have HQQ : Bx (lo ≤ lo + q2 ∧ lo + q2 ≤ 14) := ⟨by omega⟩
                                  have HSHD : Bx (SH wi #[.int .i64 2, .int .i64 ord, .int .i64 0, .slice (some ⟨g2, 0, none⟩) n gcap2, .slice none 0 0, .int .i64 0, .int .i64 0, .int .i64 p, v8] wy.drew) := ⟨HSH.out.drewN 1⟩
                                  have HOWD := Bx.mk (ownsRow_kp HOW.out (Kp.drew [] wy) (fun _ _ => by simp))
                                  have HGID := Bx.mk (HGI.out.kp (Kp.drew [] wy) (by simp))
                                  have s8 := Lib.cell_of_heap HSH.out.sub 8
                                  have f8 := Lib.frozen_of_heap HSH.out.sub 8
                                  have i6 := Lib.cell_of_heap (HSH.out.kp.at HIN.out (by simp)) 6
                                  simp only [List.getElem?_toArray, List.getElem?_cons_zero, List.getElem?_cons_succ] at s8 i6
                                  have hw0 : IntKind.i64.wrap ((x : Int) / 256) = (x : Int) / 256 := by rw [IntKind.wrap_i64]; omega
                                  have hw1 : IntKind.i64.wrap (2 + (t : Int)) = 2 + (t : Int) := by rw [IntKind.wrap_i64]; omega
                                  have hwb : IntKind.i64.wrap ((r.bits : Int) - 8) = (r.bits : Int) - 8 := by rw [IntKind.wrap_i64]; omega
                                  have hw15 : IntKind.i64.wrap ((15 : Int) - (lo : Int)) = (15 : Int) - (lo : Int) := by rw [IntKind.wrap_i64]; omega
                                  have hwa : IntKind.i64.wrap ((lo : Int) + (q2 : Int)) = (lo : Int) + (q2 : Int) := by rw [IntKind.wrap_i64]; omega
                                  have gl := Lib.lt_of_heap HSH.out.sub
                                  have HT : Bx (intsV ((ps ++ [lo + q2]).map Int.ofNat) = intsV (ps.map Int.ofNat) ++ [.int .i64 ((lo : Int) + (q2 : Int))]) := ⟨by rw [List.map_append, List.map_singleton, intsV_snoc]; rfl⟩
                                  have HOA := Bx.mk (HOWD.out.alloc (.cells #[.int .i64 ((lo : Int) + (q2 : Int))] 3))
                                  have HSZ : Bx (wi.heap.size + 1 + 1 ≤ (wy.drew.alloc (.cells #[.int .i64 ((lo : Int) + (q2 : Int))] 3)).heap.size) := by
                                    constructor
                                    have h1 : (wy.drew.alloc (.cells #[.int .i64 ((lo : Int) + (q2 : Int))] 3)).heap.size = wy.heap.size + 1 := World.size_alloc _ _
                                    omega
                                  obtain ⟨i0, hi, hz0, hz1', hz2'⟩ := info_parts Tryz.info3
                                  clear HXO HXL HGC HBS HPD hbb
                                  have i6a : (wy.drew.alloc (.cells #[.int .i64 ((lo : Int) + (q2 : Int))] 3)).cell? ⟨I, 6, none⟩ = some (.int .i64 r.bits) := Lib.cell_of_heap (heap_alloc (HSH.out.kp.at HIN.out (by simp))) 6
                                  refine wp_region_held_drew (S := fun w' => w'.cell? ⟨I, 6, none⟩ = some (.int .i64 r.bits)) (by kernel_rfl) i6 (fun hS => ?_)
                                  refine wpAnyH_take (i := 0) (v := .pointer (some ⟨wi.heap.size + 1, 8, none⟩)) rfl (by kernel_rfl) (by kernel_rfl) (by kernel_rfl) (fun _ _ _ h => h) (Or.inl ⟨by rfl, ?_⟩) hS ?_
                                  · intro w9 hS9
                                    (try dsimp only at hS9)
                                    go_simp
                                  simp only [Act.put, List.getElem_toArray, List.getElem_cons_zero, List.setIfInBounds_toArray, List.set_cons_zero, List.set_cons_succ]
                                  refine wpAnyH_take (i := 2) (v := .pointer (some ⟨I, 6, none⟩)) rfl (by kernel_rfl) (by kernel_rfl) (by kernel_rfl) (fun _ _ _ h => h) (Or.inl ⟨by rfl, ?_⟩) hS ?_
                                  · intro w9 hS9
                                    (try dsimp only at hS9)
                                    go_simp
                                  simp only [Act.put, List.getElem_toArray, List.getElem_cons_zero, List.getElem_cons_succ, List.setIfInBounds_toArray, List.set_cons_zero, List.set_cons_succ]
                                  refine wpAnyH_take (i := 3) (v := .int .i64 r.bits) rfl (by kernel_rfl) (by kernel_rfl) (by kernel_rfl) (fun _ _ _ h => h) (Or.inl ⟨by rfl, ?_⟩) hS ?_
                                  · intro w9 hS9
                                    (try dsimp only at hS9)
                                    go_simp
                                  simp only [Act.put, List.getElem_toArray, List.getElem_cons_zero, List.getElem_cons_succ, List.setIfInBounds_toArray, List.set_cons_zero, List.set_cons_succ]
                                  refine wpAnyH_take (i := 4) (v := .int .i64 ((r.bits : Int) - 8)) rfl (by kernel_rfl) (by kernel_rfl) (by kernel_rfl) (fun _ _ _ h => h) (Or.inl ⟨by rfl, ?_⟩) hS ?_
                                  · intro w9 hS9
                                    (try dsimp only at hS9)
                                    go_simp
                                  simp only [Act.put, List.getElem_toArray, List.getElem_cons_zero, List.getElem_cons_succ, List.setIfInBounds_toArray, List.set_cons_zero, List.set_cons_succ]
                                  refine wpAnyH_take (i := 5) (v := .int .i64 lo) rfl (by kernel_rfl) (by kernel_rfl) (by kernel_rfl) (fun _ _ _ h => h) (Or.inl ⟨by rfl, ?_⟩) hS ?_
                                  · intro w9 hS9
                                    (try dsimp only at hS9)
                                    go_simp
                                  simp only [Act.put, List.getElem_toArray, List.getElem_cons_zero, List.getElem_cons_succ, List.setIfInBounds_toArray, List.set_cons_zero, List.set_cons_succ]
                                  refine wpAnyH_take (i := 6) (v := .int .u16 x) rfl (by kernel_rfl) (by kernel_rfl) (by kernel_rfl) (fun _ _ _ h => h) (Or.inl ⟨by rfl, ?_⟩) hS ?_
                                  · intro w9 hS9
                                    (try dsimp only at hS9)
                                    go_simp
                                  simp only [Act.put, List.getElem_toArray, List.getElem_cons_zero, List.getElem_cons_succ, List.setIfInBounds_toArray, List.set_cons_zero, List.set_cons_succ]
                                  refine wpAnyH_take (i := 7) (v := .int .u16 ((x : Int) / 256)) rfl (by kernel_rfl) (by kernel_rfl) (by kernel_rfl) (fun _ _ _ h => h) (Or.inl ⟨by rfl, ?_⟩) hS ?_
                                  · intro w9 hS9
                                    (try dsimp only at hS9)
                                    go_simp
                                  simp only [Act.put, List.getElem_toArray, List.getElem_cons_zero, List.getElem_cons_succ, List.setIfInBounds_toArray, List.set_cons_zero, List.set_cons_succ]
                                  refine wpAnyH_take (i := 8) (v := .int .i64 ((x : Int) / 256)) rfl (by kernel_rfl) (by kernel_rfl) (by kernel_rfl) (fun _ _ _ h => h) (Or.inl ⟨by rfl, ?_⟩) hS ?_
                                  · intro w9 hS9
                                    (try dsimp only at hS9)
                                    go_simp
                                  simp only [Act.put, List.getElem_toArray, List.getElem_cons_zero, List.getElem_cons_succ, List.setIfInBounds_toArray, List.set_cons_zero, List.set_cons_succ]
                                  refine wpAnyH_take (i := 9) (v := .int .i64 t) rfl (by kernel_rfl) (by kernel_rfl) (by kernel_rfl) (fun _ _ _ h => h) (Or.inl ⟨by rfl, ?_⟩) hS ?_
                                  · intro w9 hS9
                                    (try dsimp only at hS9)
                                    go_simp
                                  simp only [Act.put, List.getElem_toArray, List.getElem_cons_zero, List.getElem_cons_succ, List.setIfInBounds_toArray, List.set_cons_zero, List.set_cons_succ]
                                  refine wpAnyH_take (i := 10) (v := .int .i64 (2 + (t : Int))) rfl (by kernel_rfl) (by kernel_rfl) (by kernel_rfl) (fun _ _ _ h => h) (Or.inl ⟨by rfl, ?_⟩) hS ?_
                                  · intro w9 hS9
                                    (try dsimp only at hS9)
                                    go_simp
                                  simp only [Act.put, List.getElem_toArray, List.getElem_cons_zero, List.getElem_cons_succ, List.setIfInBounds_toArray, List.set_cons_zero, List.set_cons_succ]
                                  refine wpAnyH_take (i := 11) (v := .int .i64 q1) rfl (by kernel_rfl) (by kernel_rfl) (by kernel_rfl) (fun _ _ _ h => h) (Or.inl ⟨by rfl, ?_⟩) hS ?_
                                  · intro w9 hS9
                                    (try dsimp only at hS9)
                                    go_simp
                                  simp only [Act.put, List.getElem_toArray, List.getElem_cons_zero, List.getElem_cons_succ, List.setIfInBounds_toArray, List.set_cons_zero, List.set_cons_succ]
                                  refine wpAnyH_take (i := 12) (v := .pointer (some ⟨I, 6, none⟩)) rfl (by kernel_rfl) (by kernel_rfl) (by kernel_rfl) (fun _ _ _ h => h) (Or.inl ⟨by rfl, ?_⟩) hS ?_
                                  · intro w9 hS9
                                    (try dsimp only at hS9)
                                    go_simp
                                  simp only [Act.put, List.getElem_toArray, List.getElem_cons_zero, List.getElem_cons_succ, List.setIfInBounds_toArray, List.set_cons_zero, List.set_cons_succ]
                                  refine wpAnyH_take (i := 13) (v := .int .i64 r.bits) rfl (by kernel_rfl) (by kernel_rfl) (by kernel_rfl) (fun _ _ _ h => h) (Or.inl ⟨by rfl, ?_⟩) hS ?_
                                  · intro w9 hS9
                                    (try dsimp only at hS9)
                                    go_simp
                                  simp only [Act.put, List.getElem_toArray, List.getElem_cons_zero, List.getElem_cons_succ, List.setIfInBounds_toArray, List.set_cons_zero, List.set_cons_succ]
                                  refine wpAnyH_take (i := 14) (v := .int .i64 ((r.bits : Int) - 8)) rfl (by kernel_rfl) (by kernel_rfl) (by kernel_rfl) (fun _ _ _ h => h) (Or.inl ⟨by rfl, ?_⟩) hS ?_
                                  · intro w9 hS9
                                    (try dsimp only at hS9)
                                    go_simp
                                  simp only [Act.put, List.getElem_toArray, List.getElem_cons_zero, List.getElem_cons_succ, List.setIfInBounds_toArray, List.set_cons_zero, List.set_cons_succ]
                                  refine wpAnyH_take (i := 15) (v := .int .i64 lo) rfl (by kernel_rfl) (by kernel_rfl) (by kernel_rfl) (fun _ _ _ h => h) (Or.inl ⟨by rfl, ?_⟩) hS ?_
                                  · intro w9 hS9
                                    (try dsimp only at hS9)
                                    go_simp
                                  simp only [Act.put, List.getElem_toArray, List.getElem_cons_zero, List.getElem_cons_succ, List.setIfInBounds_toArray, List.set_cons_zero, List.set_cons_succ]
                                  refine wpAnyH_take (i := 16) (v := .int .i64 ((15 : Int) - (lo : Int))) rfl (by kernel_rfl) (by kernel_rfl) (by kernel_rfl) (fun _ _ _ h => h) (Or.inl ⟨by rfl, ?_⟩) hS ?_
                                  · intro w9 hS9
                                    (try dsimp only at hS9)
                                    go_simp
                                  simp only [Act.put, List.getElem_toArray, List.getElem_cons_zero, List.getElem_cons_succ, List.setIfInBounds_toArray, List.set_cons_zero, List.set_cons_succ]
                                  refine wpAnyH_take (i := 17) (v := .int .i64 mm) rfl (by kernel_rfl) (by kernel_rfl) (by kernel_rfl) (fun _ _ _ h => h) (Or.inl ⟨by rfl, ?_⟩) hS ?_
                                  · intro w9 hS9
                                    (try dsimp only at hS9)
                                    go_simp
                                  simp only [Act.put, List.getElem_toArray, List.getElem_cons_zero, List.getElem_cons_succ, List.setIfInBounds_toArray, List.set_cons_zero, List.set_cons_succ]
                                  refine wpAnyH_take (i := 18) (v := .int .i64 q2) rfl (by kernel_rfl) (by kernel_rfl) (by kernel_rfl) (fun _ _ _ h => h) (Or.inl ⟨by rfl, ?_⟩) hS ?_
                                  · intro w9 hS9
                                    (try dsimp only at hS9)
                                    go_simp
                                  simp only [Act.put, List.getElem_toArray, List.getElem_cons_zero, List.getElem_cons_succ, List.setIfInBounds_toArray, List.set_cons_zero, List.set_cons_succ]
                                  refine wpAnyH_take (i := 19) (v := .int .i64 ((lo : Int) + (q2 : Int))) rfl (by kernel_rfl) (by kernel_rfl) (by kernel_rfl) (fun _ _ _ h => h) (Or.inl ⟨by rfl, ?_⟩) hS ?_
                                  · intro w9 hS9
                                    (try dsimp only at hS9)
                                    go_simp
                                  simp only [Act.put, List.getElem_toArray, List.getElem_cons_zero, List.getElem_cons_succ, List.setIfInBounds_toArray, List.set_cons_zero, List.set_cons_succ]
                                  refine wpAnyH_ready (rs := [1, 20]) (by kernel_rfl) (by simp) ?_
                                  refine AllReadyH.cons rfl (fun K hK => ?_) (AllReadyH.cons rfl (fun K hK => ?_) AllReadyH.nil)
                                  · go_simp
                                    refine hK.out _ _ i6 (fun hS => ?_)
                                    clear hK K
                                    (try simp only [Act.put, List.getElem_toArray, List.getElem_cons_zero, List.getElem_cons_succ, List.setIfInBounds_toArray, List.set_cons_zero, List.set_cons_succ])
                                    refine wpAnyH_ready (rs := [20]) (by kernel_rfl) (by simp) ?_
                                    refine AllReadyH.cons rfl (fun K hK => ?_) AllReadyH.nil
                                    go_simp
                                    refine hK.out _ _ i6a (fun hS => ?_)
                                    clear hK K
                                    (try simp only [Act.put, List.getElem_toArray, List.getElem_cons_zero, List.getElem_cons_succ, List.setIfInBounds_toArray, List.set_cons_zero, List.set_cons_succ])
                                    refine wpAnyH_ready (rs := [21]) (by kernel_rfl) (by simp) ?_
                                    refine AllReadyH.cons rfl (fun K hK => ?_) AllReadyH.nil
                                    refine step_append_lies _ rfl (.tmp 182) (.tmp 201) 48 rfl (wi.heap.size + 1 + 1) 3 i0 (.int .i64 0) 1 8 Tryz.underlying48 hi hz0 hz1' hz2' rfl (by decide) v8 t _ (by simp [Act.eval]) HOA.out ⟨wy.heap.size, 0, none⟩ 1 1 [.int .i64 ((lo : Int) + (q2 : Int))] (by simp [Act.eval]) rfl (cell_one_new wy.drew _ _) (by simp [Value.oneCell']) (by decide) (by unfold maxLen; omega) (by omega) HSZ.out _ rfl ?_
                                    intro g5 cap5 w5 hown5 hgrow hat hlt
                                    rw [← HT.out] at hown5
                                    have HPU := Bx.mk (SH.push (i := 8) HSHD.out HOWD.out (by omega) hgrow hown5 (by decide))
                                    have i6s := Lib.cell_of_heap (HPU.out.1.kp.at HIN.out (by simp)) 6
                                    have i6w := Lib.cell_of_heap ((pushKp HOWD.out hgrow).1.at (HSHD.out.kp.at HIN.out (by simp)) (fun hm => by have := (pushKp HOWD.out hgrow).2.2 _ hm; have := Lib.lt_of_heap HIN.out; omega)) 6
                                    have s8' := Lib.cell_of_heap HPU.out.2.2.2.2 8
                                    have f8' := Lib.frozen_of_heap HPU.out.2.2.2.2 8
                                    simp only [List.getElem?_toArray, List.getElem?_cons_zero, List.getElem?_cons_succ] at i6s i6w s8'
                                    clear hown5 hgrow hat hlt
                                    refine hK.out _ _ i6w (fun hS => ?_)
                                    clear hK K
                                    (try simp only [Act.put, List.getElem_toArray, List.getElem_cons_zero, List.getElem_cons_succ, List.setIfInBounds_toArray, List.set_cons_zero, List.set_cons_succ])
                                    refine wpAnyH_take (i := 22) (v := .pointer (some ⟨wi.heap.size + 1, 8, none⟩)) rfl (by kernel_rfl) (by kernel_rfl) (by kernel_rfl) (fun _ _ _ h => h) (Or.inl ⟨by rfl, ?_⟩) hS ?_
                                    · intro w9 hS9
                                      (try dsimp only at hS9)
                                      go_simp
                                    simp only [Act.put, List.getElem_toArray, List.getElem_cons_zero, List.getElem_cons_succ, List.setIfInBounds_toArray, List.set_cons_zero, List.set_cons_succ]
                                    refine wpAnyH_ready (rs := [23]) (by kernel_rfl) (by simp) ?_
                                    refine AllReadyH.cons rfl (fun K hK => ?_) AllReadyH.nil
                                    go_simp
                                    refine hK.out _ _ i6s (fun hS => ?_)
                                    clear hK K
                                    (try simp only [Act.put, List.getElem_toArray, List.getElem_cons_zero, List.getElem_cons_succ, List.setIfInBounds_toArray, List.set_cons_zero, List.set_cons_succ])
                                    refine wpAnyH_done (by kernel_rfl) ?_ _
                                    clear s8 f8 i6 gl hq1 hq1t hm15 hq2 hq2t s8' f8' hw0 hw1 hwb hw15 hwa hz1 hz2 hz3
                                    go_wp2_with fail
                                    go_roundw
                                    case rel =>
                                      refine ⟨ps ++ [lo + q2], _, by rw [List.length_append, HTD.out]; exact HTN.out, by rw [List.length_append, HTD.out]; rfl, fun y hy => ?_, HPU.out.1, by rw [List.length_append, HTD.out]; exact HPU.out.2.1, HGID.out.kpT HPU.out.2.2.1 HPU.out.2.2.2.1 (by decide)⟩
                                      rcases List.mem_append.1 hy with h | h
                                      · exact HPB.out y h
                                      · obtain rfl : y = lo + q2 := by simpa using h
                                        exact HQQ.out
                                    case measure =>
                                      have := HTN.out
                                      simp [intOf]; omega
                                  · go_simp
                                    refine hK.out _ _ i6a (fun hS => ?_)
                                    clear hK K
                                    (try simp only [Act.put, List.getElem_toArray, List.getElem_cons_zero, List.getElem_cons_succ, List.setIfInBounds_toArray, List.set_cons_zero, List.set_cons_succ])
                                    refine wpAnyH_ready (rs := [1]) (by kernel_rfl) (by simp) ?_
                                    refine AllReadyH.cons rfl (fun K hK => ?_) AllReadyH.nil
                                    go_simp
                                    refine hK.out _ _ i6a (fun hS => ?_)
                                    clear hK K
                                    (try simp only [Act.put, List.getElem_toArray, List.getElem_cons_zero, List.getElem_cons_succ, List.setIfInBounds_toArray, List.set_cons_zero, List.set_cons_succ])
                                    refine wpAnyH_ready (rs := [21]) (by kernel_rfl) (by simp) ?_
                                    refine AllReadyH.cons rfl (fun K hK => ?_) AllReadyH.nil
                                    refine step_append_lies _ rfl (.tmp 182) (.tmp 201) 48 rfl (wi.heap.size + 1 + 1) 3 i0 (.int .i64 0) 1 8 Tryz.underlying48 hi hz0 hz1' hz2' rfl (by decide) v8 t _ (by simp [Act.eval]) HOA.out ⟨wy.heap.size, 0, none⟩ 1 1 [.int .i64 ((lo : Int) + (q2 : Int))] (by simp [Act.eval]) rfl (cell_one_new wy.drew _ _) (by simp [Value.oneCell']) (by decide) (by unfold maxLen; omega) (by omega) HSZ.out _ rfl ?_
                                    intro g5 cap5 w5 hown5 hgrow hat hlt
                                    rw [← HT.out] at hown5
                                    have HPU := Bx.mk (SH.push (i := 8) HSHD.out HOWD.out (by omega) hgrow hown5 (by decide))
                                    have i6s := Lib.cell_of_heap (HPU.out.1.kp.at HIN.out (by simp)) 6
                                    have i6w := Lib.cell_of_heap ((pushKp HOWD.out hgrow).1.at (HSHD.out.kp.at HIN.out (by simp)) (fun hm => by have := (pushKp HOWD.out hgrow).2.2 _ hm; have := Lib.lt_of_heap HIN.out; omega)) 6
                                    have s8' := Lib.cell_of_heap HPU.out.2.2.2.2 8
                                    have f8' := Lib.frozen_of_heap HPU.out.2.2.2.2 8
                                    simp only [List.getElem?_toArray, List.getElem?_cons_zero, List.getElem?_cons_succ] at i6s i6w s8'
                                    clear hown5 hgrow hat hlt
                                    refine hK.out _ _ i6w (fun hS => ?_)
                                    clear hK K
                                    (try simp only [Act.put, List.getElem_toArray, List.getElem_cons_zero, List.getElem_cons_succ, List.setIfInBounds_toArray, List.set_cons_zero, List.set_cons_succ])
                                    refine wpAnyH_take (i := 22) (v := .pointer (some ⟨wi.heap.size + 1, 8, none⟩)) rfl (by kernel_rfl) (by kernel_rfl) (by kernel_rfl) (fun _ _ _ h => h) (Or.inl ⟨by rfl, ?_⟩) hS ?_
                                    · intro w9 hS9
                                      (try dsimp only at hS9)
                                      go_simp
                                    simp only [Act.put, List.getElem_toArray, List.getElem_cons_zero, List.getElem_cons_succ, List.setIfInBounds_toArray, List.set_cons_zero, List.set_cons_succ]
                                    refine wpAnyH_ready (rs := [23]) (by kernel_rfl) (by simp) ?_
                                    refine AllReadyH.cons rfl (fun K hK => ?_) AllReadyH.nil
                                    go_simp
                                    refine hK.out _ _ i6s (fun hS => ?_)
                                    clear hK K
                                    (try simp only [Act.put, List.getElem_toArray, List.getElem_cons_zero, List.getElem_cons_succ, List.setIfInBounds_toArray, List.set_cons_zero, List.set_cons_succ])
                                    refine wpAnyH_done (by kernel_rfl) ?_ _
                                    clear s8 f8 i6 gl hq1 hq1t hm15 hq2 hq2t s8' f8' hw0 hw1 hwb hw15 hwa hz1 hz2 hz3
                                    go_wp2_with fail
                                    go_roundw
                                    case rel =>
                                      refine ⟨ps ++ [lo + q2], _, by rw [List.length_append, HTD.out]; exact HTN.out, by rw [List.length_append, HTD.out]; rfl, fun y hy => ?_, HPU.out.1, by rw [List.length_append, HTD.out]; exact HPU.out.2.1, HGID.out.kpT HPU.out.2.2.1 HPU.out.2.2.2.1 (by decide)⟩
                                      rcases List.mem_append.1 hy with h | h
                                      · exact HPB.out y h
                                      · obtain rfl : y = lo + q2 := by simpa using h
                                        exact HQQ.out
                                    case measure =>
                                      have := HTN.out
                                      simp [intOf]; omega
                                · obtain rfl : M = t := by omega
                                  go_wp2_with fail
                                  go_meet
                                  case rel =>
                                    have hM0 : 0 < M := by rw [← HME.out]; exact Nat.pow_pos (by decide)
                                    obtain ⟨P, pcap, rfl, _, _⟩ := HOW.out.form hM0
                                    have hpl2 := HTD.out
                                    have hxl := HXL.out
                                    refine ⟨⟨2, ord, p, ps, xs⟩, g2, gcap2, P, pcap, HXO.out.poly (HK22.out (by first | trivial | rfl)) ho4 hon hp HPD.out (hpl2.trans HME.out.symm) (fun q hq => by rw [HLG.out]; exact HPB.out q hq), by have := HGC.out; simp only; omega, ?_, ⟨HGI.out, own_ints HOW.out⟩, HSH.out.kp⟩
                                    have h := HSH.out.sub
                                    simpa [PSub.ic, hxl, hpl2] using h
                        · have hne : ((kd2 : Int) == 2) = false := by simp; omega
                          go_wp2_with fail
                          go_meet
                          case rel =>
                            have hxl := HXL.out
                            refine ⟨⟨kd2, 0, 0, [4], xs⟩, g2, gcap2, wi.heap.size, 1, HXO.out.plain (by omega) (fun h j hj => HBS.out (HK20.out h) j (by omega)), by have := HGC.out; simp only; omega, ?_, ⟨HGI2.out, ⟨_, HSH.out.par, fun j x hx => ?_⟩⟩, HSH.out.kp⟩
                            · have h := HSH.out.sub
                              simpa [PSub.ic, hxl] using h
                            · cases j with
                              | zero => simp at hx; subst hx; rfl
                              | succ j => simp at hx
                      case rest =>
                        obtain ⟨s, g', gcap', P, pcap, hsgood, hle, hsub, hgs, hkp⟩ := hcut
                        clear HSH HK20 HK22 HGI2 HBS HXO HXI HXL HGC HIN
                        have HGD := Bx.mk hsgood
                        have HSB := Bx.mk hsub
                        have HGS := Bx.mk hgs
                        have HKC := Bx.mk hkp
                        have HFC := Bx.mk (hkp.at HFB.out (by simp))
                        have HSC := Bx.mk (HSO.out.kpT hkp (OfTy.nil _ [1]) (by decide))
                        have HLE := Bx.mk hle
                        clear hsgood hsub hgs hkp hle HFB HSO
                        have e6 := Lib.cell_of_heap HFC.out 6
                        have z6 := Lib.frozen_of_heap HFC.out 6
                        have b0 := Lib.cell_of_heap HSB.out 0
                        have b1 := Lib.cell_of_heap HSB.out 1
                        have b2 := Lib.cell_of_heap HSB.out 2
                        have b3 := Lib.cell_of_heap HSB.out 3
                        have b4 := Lib.cell_of_heap HSB.out 4
                        have b5 := Lib.cell_of_heap HSB.out 5
                        have b6 := Lib.cell_of_heap HSB.out 6
                        have b7 := Lib.cell_of_heap HSB.out 7
                        have b8 := Lib.cell_of_heap HSB.out 8
                        simp only [PSub.ic, List.getElem?_toArray, List.getElem?_cons_zero, List.getElem?_cons_succ] at e6 b0 b1 b2 b3 b4 b5 b6 b7 b8
                        obtain ⟨cells, hown, hcl⟩ := HSC.out
                        have HOW := Bx.mk hown
                        have HCL := Bx.mk hcl
                        clear hown hcl
                        obtain ⟨i52, i52a, i52b, i52c, i52d⟩ := info_parts Tryz.info52
                        have HOA := Bx.mk (HOW.out.alloc (.cells (s.ic g' gcap' P pcap).toArray 52))
                        have HNW := Bx.mk (World.news_of_block (heap_alloc_new wc (.cells (s.ic g' gcap' P pcap).toArray 52)))
                        have hfl2 := Lib.lt_of_heap HFC.out
                        have HSZ : Bx (wo.heap.size + 1 + 1 ≤ (wc.alloc (.cells (s.ic g' gcap' P pcap).toArray 52)).heap.size) := by
                          constructor
                          simp only [World.size_alloc]; omega
                        have hc8 : c < 8 := by have := HR.out.assign; omega
                        have hss8 : ss.length ≤ 8 := by
                          have h1 := HR.out.assign
                          have h2 := HCD.out
                          omega
                        simp only [PSub.ic] at HOA HNW HSZ
                        go_wp2_with (at_builtin; refine wpList_append_lies _ rfl (.tmp 206) (.tmp 208) 44 rfl (wo.heap.size + 1 + 1) 52 i52 _ 9 120 Tryz.underlying44 i52a i52b i52c i52d rfl (by decide) sv ss.length cells (by simp [Act.eval]) HOA.out ⟨wc.heap.size, 0, none⟩ 1 1 (s.ic g' gcap' P pcap) (by simp [Act.eval]) rfl HNW.out (by simp [PSub.ic, Value.oneCell']) (by decide) (by unfold maxLen; omega) (by omega) HSZ.out _ rfl ?_)
                        intro g5 cap5 w3 hown3 hgrow hat hlt
                        have HPU := Bx.mk (SubsOwn.push HOW.out HCL.out HLE.out HGS.out hgrow hown3)
                        have hf3 := HPU.out.2.1.at HFC.out (HPU.out.2.2.1.not HFC.out (by decide))
                        have HF3 := Bx.mk hf3
                        have e6' := Lib.cell_of_heap hf3 6
                        have z6' := Lib.frozen_of_heap hf3 6
                        simp only [List.getElem?_toArray, List.getElem?_cons_zero, List.getElem?_cons_succ] at e6'
                        have HK3 : Bx (Kp [] wo w3) := ⟨(HKI.out.trans HKC.out).new HPU.out.2.1 (fun i hi => by have := HPU.out.2.2.2 i hi; omega)⟩
                        clear e6 z6 b0 b1 b2 b3 b4 b5 b6 b7 b8 hown3 hgrow hat hlt hf3 hfl2
                        go_wp2_with fail
                        go_roundw
                        case rel =>
                          have hkf : Kp [wo.heap.size + 1] w3 (w3.setCell ⟨wo.heap.size + 1, 6, none⟩ (.slice (some ⟨g5, 0, none⟩) (ss.length + 1) cap5)) := Kp.setCell _ _ _ (by simp)
                          refine ⟨ss ++ [s], _, by rw [List.length_append, HCD.out]; exact HCN.out, by rw [List.length_append, HCD.out]; rfl, fun y hy => ?_, heap_set HF3.out, HPU.out.1.kpT hkf (one_ty HF3.out) (by decide), HK3.out.new hkf (by simp)⟩
                          rcases List.mem_append.1 hy with h | h
                          · exact HSG.out y h
                          · obtain rfl : y = s := by simpa using h
                            exact HGD.out
                        case measure =>
                          have := HCN.out
                          simp [intOf]; omega
          · obtain rfl : c = r.assign + 1 := by omega
            have hsn0 : 0 < ss.length := by have := HCD.out; omega
            obtain ⟨Y, ycap, rfl, hsa⟩ := HSO.out.at hsn0
            have HSA := Bx.mk hsa
            have HOI := Bx.mk (HOS.out.keep HKI.out)
            clear hsa
            obtain ⟨og, ocap, ocells, rfl, hown, hoc⟩ := HOI.out.frames
            have HOW := Bx.mk hown
            have HOC := Bx.mk hoc
            clear hown hoc
            have e0 := Lib.cell_of_heap HFB.out 0
            have e1 := Lib.cell_of_heap HFB.out 1
            have e2 := Lib.cell_of_heap HFB.out 2
            have e3 := Lib.cell_of_heap HFB.out 3
            have e4 := Lib.cell_of_heap HFB.out 4
            have e5 := Lib.cell_of_heap HFB.out 5
            have e6 := Lib.cell_of_heap HFB.out 6
            simp only [List.getElem?_toArray, List.getElem?_cons_zero, List.getElem?_cons_succ] at e0 e1 e2 e3 e4 e5 e6
            obtain ⟨i46, i46a, i46b, i46c, i46d⟩ := info_parts Tryz.info46
            have HFGD : Bx (FGood r ⟨r.va, n, r.rate, r.assign, r.bits, ss⟩) := ⟨FGood.make HR.out hn1 hn2 HCD.out HSG.out⟩
            have HOA := Bx.mk (HOW.out.alloc (.cells (PFrame.ic ⟨r.va, n, r.rate, r.assign, r.bits, ss⟩ Y ycap).toArray 46))
            have HNW := Bx.mk (World.news_of_block (heap_alloc_new wi (.cells (PFrame.ic ⟨r.va, n, r.rate, r.assign, r.bits, ss⟩ Y ycap).toArray 46)))
            have HSZ : Bx (w.heap.size ≤ (wi.alloc (.cells (PFrame.ic ⟨r.va, n, r.rate, r.assign, r.bits, ss⟩ Y ycap).toArray 46)).heap.size) := by
              have := HOI.out.kp.size
              constructor
              simp only [World.size_alloc]; omega
            have hfs3 : fs.length ≤ 3 := by have := HKD.out; omega
            simp only [PFrame.ic] at HOA HNW HSZ
            go_wp2_with (at_builtin; refine wpList_append_lies _ rfl (.tmp 212) (.tmp 214) 29 rfl w.heap.size 46 i46 _ 7 72 Tryz.underlying29 i46a i46b i46c i46d rfl (by decide) (.slice (some ⟨og, 0, none⟩) fs.length ocap) fs.length ocells (by simp [Act.eval]) HOA.out ⟨wi.heap.size, 0, none⟩ 1 1 (PFrame.ic ⟨r.va, n, r.rate, r.assign, r.bits, ss⟩ Y ycap) (by simp [Act.eval]) rfl HNW.out (by simp [PFrame.ic, Value.oneCell']) (by decide) (by unfold maxLen; omega) (by omega) HSZ.out _ rfl ?_)
            intro g5 cap5 w3 hown3 hgrow hat hlt
            have HPU := Bx.mk (FramesOwn.push (f := ⟨r.va, n, r.rate, r.assign, r.bits, ss⟩) HOW.out HOC.out HSA.out hgrow hown3)
            have HO3 : Bx (OS r ns smp I W0.heap.size (.slice (some ⟨gh, 0, none⟩) ns.length hcap) (.slice (some ⟨ga, 0, none⟩) ns.length acap) w (fs ++ [⟨r.va, n, r.rate, r.assign, r.bits, ss⟩]) (.slice (some ⟨g5, 0, none⟩) (fs.length + 1) cap5) w3) := by
              have k := HPU.out.2.1
              have ty := HPU.out.2.2.1
              have hb := HPU.out.2.2.2
              exact ⟨⟨HPU.out.1, k.at HOI.out.inf (ty.not HOI.out.inf (by decide)), k.at HOI.out.res (ty.not HOI.out.res (by decide)), HOI.out.heads.kpT k ty (by decide), HOI.out.all.kpT k ty (by decide), HOI.out.kp.new k (by simpa using hb)⟩⟩
            clear e0 e1 e2 e3 e4 e5 e6 hown3 hgrow hat hlt
            go_wp2_with fail
            go_roundw
            case rel =>
              refine ⟨fs ++ [⟨r.va, n, r.rate, r.assign, r.bits, ss⟩], by rw [List.length_append, HKD.out]; exact HKN.out, by rw [List.length_append, HKD.out]; rfl, fun y hy => ?_, HO3.out⟩
              rcases List.mem_append.1 hy with h | h
              · exact HFG.out y h
              · obtain rfl : y = ⟨r.va, n, r.rate, r.assign, r.bits, ss⟩ := by simpa using h
                exact HFGD.out
            case measure =>
              have := HKN.out
              simp [intOf]; omega
      · obtain rfl : ns.length = k := by omega
        have j0 := Lib.cell_of_heap HOS.out.inf 0
        have j1 := Lib.cell_of_heap HOS.out.inf 1
        have j4 := Lib.cell_of_heap HOS.out.inf 4
        have j5 := Lib.cell_of_heap HOS.out.inf 5
        have j6 := Lib.cell_of_heap HOS.out.inf 6
        have j7 := Lib.cell_of_heap HOS.out.inf 7
        have o0 := Lib.cell_of_heap HOS.out.res 0
        have p0 := Lib.frozen_of_heap HOS.out.res 0
        have o1 := Lib.cell_of_heap HOS.out.res 1
        have p1 := Lib.frozen_of_heap HOS.out.res 1
        have o2 := Lib.cell_of_heap HOS.out.res 2
        have p2 := Lib.frozen_of_heap HOS.out.res 2
        have o3 := Lib.cell_of_heap HOS.out.res 3
        have p3 := Lib.frozen_of_heap HOS.out.res 3
        have o4 := Lib.cell_of_heap HOS.out.res 4
        have p4 := Lib.frozen_of_heap HOS.out.res 4
        have o5 := Lib.cell_of_heap HOS.out.res 5
        have p5 := Lib.frozen_of_heap HOS.out.res 5
        have o6 := Lib.cell_of_heap HOS.out.res 6
        have p6 := Lib.frozen_of_heap HOS.out.res 6
        have o7 := Lib.cell_of_heap HOS.out.res 7
        have p7 := Lib.frozen_of_heap HOS.out.res 7
        have o8 := Lib.cell_of_heap HOS.out.res 8
        have p8 := Lib.frozen_of_heap HOS.out.res 8
        simp only [List.getElem?_toArray, List.getElem?_cons_zero, List.getElem?_cons_succ] at j0 j1 j4 j5 j6 j7 o0 o1 o2 o3 o4 o5 o6 o7 o8
        go_wp2_with fail
        have hE : (((((((((wo.setCell ⟨w.heap.size, 0, none⟩ (.int .i64 16)).setCell ⟨w.heap.size, 1, none⟩ (.int .i64 4096)).setCell ⟨w.heap.size, 2, none⟩ (.int .i64 0)).setCell ⟨w.heap.size, 3, none⟩ (.int .i64 0)).setCell ⟨w.heap.size, 4, none⟩ (.int .i64 r.rate)).setCell ⟨w.heap.size, 5, none⟩ (.int .i64 ((r.assign : Int) + 1))).setCell ⟨w.heap.size, 6, none⟩ (.int .i64 r.bits)).setCell ⟨w.heap.size, 7, none⟩ (.int .u64 smp)).setCell ⟨w.heap.size, 8, none⟩ (.slice none 0 0)).heap[w.heap.size]? = some (.cells #[.int .i64 16, .int .i64 4096, .int .i64 0, .int .i64 0, .int .i64 r.rate, .int .i64 ((r.assign : Int) + 1), .int .i64 r.bits, .int .u64 smp, .slice none 0 0] 28 (0, 0)) := by
          rw [(heap_set (heap_set (heap_set (heap_set (heap_set (heap_set (heap_set (heap_set (heap_set HOS.out.res)))))))))]
          simp
        have hKE : Kp [w.heap.size] wo (((((((((wo.setCell ⟨w.heap.size, 0, none⟩ (.int .i64 16)).setCell ⟨w.heap.size, 1, none⟩ (.int .i64 4096)).setCell ⟨w.heap.size, 2, none⟩ (.int .i64 0)).setCell ⟨w.heap.size, 3, none⟩ (.int .i64 0)).setCell ⟨w.heap.size, 4, none⟩ (.int .i64 r.rate)).setCell ⟨w.heap.size, 5, none⟩ (.int .i64 ((r.assign : Int) + 1))).setCell ⟨w.heap.size, 6, none⟩ (.int .i64 r.bits)).setCell ⟨w.heap.size, 7, none⟩ (.int .u64 smp)).setCell ⟨w.heap.size, 8, none⟩ (.slice none 0 0)) := (((((((((Kp.setCell wo _ _ (by simp)).trans (Kp.setCell _ _ _ (by simp))).trans (Kp.setCell _ _ _ (by simp))).trans (Kp.setCell _ _ _ (by simp))).trans (Kp.setCell _ _ _ (by simp))).trans (Kp.setCell _ _ _ (by simp))).trans (Kp.setCell _ _ _ (by simp))).trans (Kp.setCell _ _ _ (by simp))).trans (Kp.setCell _ _ _ (by simp)))
        have HFE := Bx.mk (HOS.out.frames.kpT hKE (one_ty HOS.out.res) (by decide))
        have HKE := Bx.mk (HOS.out.kp.new hKE (by simp))
        clear hKE j0 j1 j4 j5 j6 j7 o0 o1 o2 o3 o4 o5 o6 o7 o8 p0 p1 p2 p3 p4 p5 p6 p7 p8
        generalize ((((((((wo.setCell ⟨w.heap.size, 0, none⟩ (.int .i64 16)).setCell ⟨w.heap.size, 1, none⟩ (.int .i64 4096)).setCell ⟨w.heap.size, 2, none⟩ (.int .i64 0)).setCell ⟨w.heap.size, 3, none⟩ (.int .i64 0)).setCell ⟨w.heap.size, 4, none⟩ (.int .i64 r.rate)).setCell ⟨w.heap.size, 5, none⟩ (.int .i64 ((r.assign : Int) + 1))).setCell ⟨w.heap.size, 6, none⟩ (.int .i64 r.bits)).setCell ⟨w.heap.size, 7, none⟩ (.int .u64 smp)).setCell ⟨w.heap.size, 8, none⟩ (.slice none 0 0) = wE at hE HFE HKE ⊢
        obtain ⟨G, gcap, rfl, hfa⟩ := HFE.out.at
        have HFA := Bx.mk hfa
        clear hfa
        have q0 := Lib.cell_of_heap hE 0
        have q1 := Lib.cell_of_heap hE 1
        have q2 := Lib.cell_of_heap hE 2
        have q3 := Lib.cell_of_heap hE 3
        have q4 := Lib.cell_of_heap hE 4
        have q5 := Lib.cell_of_heap hE 5
        have q6 := Lib.cell_of_heap hE 6
        have q7 := Lib.cell_of_heap hE 7
        have q8 := Lib.cell_of_heap hE 8
        simp only [List.getElem?_toArray, List.getElem?_cons_zero, List.getElem?_cons_succ] at q0 q1 q2 q3 q4 q5 q6 q7 q8
        have HALL := FGood.all (smp := smp) HR.out (by have := HKD.out; omega) HFG.out (by omega)
        refine bodyPost_ret (v := .tuple #[.agg #[.int .i64 16, .int .i64 4096, .int .i64 0, .int .i64 0, .int .i64 r.rate, .int .i64 ((r.assign : Int) + 1), .int .i64 r.bits, .int .u64 smp, .slice none 0 0], .slice (some ⟨G, 0, none⟩) fs.length gcap]) (by simp [results, Tryz.results5, go_sem, *]) rfl ?_
        exact ⟨⟨r.rate, r.assign + 1, r.bits, smp⟩, r.va, fs, G, gcap, HALL.1, HALL.2, rfl, HFA.out, HKE.out⟩
end Go.Proofs.YtemcpcgcnjahjaaGreatDoor
