/-
  For every input whatever of laws.FnExact (flags, sizes, data, kinds) the call returns true: what the encoder writes of the given frames is to the last bit the stream of what was given. Conditions: the four listed package-level variables (io.ErrShortWrite, io.errInvalidWrite, io.EOF, frame.nChannels) read as the program's text lays them, which the card ties to that text; no other.
-/
import Derived.Test.YtemcpcgcnjahjaaGreatDoorFn
import Derived.Test.YtemcpcgcnjahjaaGreatDoorRows
import Derived.Test.YtemcpcgcnjahjaaGreatDoorTie
import Derived.Test.YtemcpcgcnjahjaaGreatDoorCards
import Derived.ProofKit
import Derived.OpenShut
import Derived.OpenVars
import Derived.LaidMore
import Derived.SevenTiedAt
import Derived.Below
import Derived.Stop.Joined
namespace Go.Proofs.YtemcpcgcnjahjaaGreatDoor
open Go.ChangeShapes Go.WideShapes Go.ChangeAt Go.RowKit
theorem Tryz.own : ownKnob Tryz.prog.godebug = none := by kernel_rfl
theorem Tryz.laidOut : laidOutB Tryz.prog = true := by kernel_rfl
theorem Tryz.gN : Tryz.prog.globalNamed "loop.example/pub-g03472/pub/flac/frame.nChannels" = some 0 := by kernel_rfl
theorem nch_of {W : World} (h : laidMetH Tryz.prog Rows.fnExactRow.laid W) : NCh W := by
  rw [MakeChecks.laidMetH_plain _ _ _ (by kernel_rfl)] at h
  obtain ⟨ps, ⟨_, _, _, _, _, _, _, _, _, _, ⟨_, _, _, _, _, _, _, _, _, _, ⟨_, _, _, _, _, _, _, _, _, _, ⟨g, t, cs, fuel, p, q, hg, ht, hv, hd, _, _⟩, _⟩, _⟩, _⟩, _, _⟩ := h
  obtain rfl := Option.some.inj (Tryz.gN.symm.trans hg)
  obtain rfl := Option.some.inj ((show (Tryz.prog.globals[0]?).map (·.type) = some 193 by kernel_rfl).symm.trans ht)
  obtain ⟨xs, m, _, ex, _, hl, hel⟩ := DataW.trod_array Tryz.underlying193 hd
  have c3 : Tryz.prog.cellsOf 3 = 1 := by kernel_rfl
  intro r hr
  have hE := hel r (by omega)
  rw [c3, Nat.mul_one, List.getElem?_eq_getElem (by omega)] at hE
  obtain ⟨z, e1, e2, _⟩ := DataW.trod_int Tryz.underlying3 hE
  have e3 : (xs.map (·.1)) = [.lit (.int .i64 1), .lit (.int .i64 2), .lit (.int .i64 3), .lit (.int .i64 4), .lit (.int .i64 5), .lit (.int .i64 6), .lit (.int .i64 7), .lit (.int .i64 8), .lit (.int .i64 2), .lit (.int .i64 2), .lit (.int .i64 2)] := (DataW.agg.inj (Prod.mk.inj ex).1).symm
  have e4 : (xs.map (·.1))[r]? = some (.lit (.int .i64 ((r : Int) + 1))) := by
    rw [e3]
    rcases (by omega : r = 0 ∨ r = 1 ∨ r = 2 ∨ r = 3 ∨ r = 4 ∨ r = 5 ∨ r = 6 ∨ r = 7) with rfl | rfl | rfl | rfl | rfl | rfl | rfl | rfl <;> rfl
  rw [List.getElem?_map, List.getElem?_eq_getElem (by omega : r < xs.length), e2] at e4
  have hz : z = (r : Int) + 1 := by
    simpa using e4
  rw [World.var?_cell hg hv r, ← hz]
  have : cs.toList[r]? = some (.int .i64 z) := by
    have h0 : ((cs.toList.drop r).take 1)[0]? = some (.int .i64 z) := by rw [e1]; rfl
    simpa using h0
  simpa using this

theorem door_met (os : Os) (args : Array Value) : laidMetH Tryz.prog Rows.fnExactRow.laid ((World.doorLaid Tryz.prog 400 os).forCall (fun _ _ => 0) ⟨#[], args, []⟩).memory :=
  laidMetH_of_parts3 (fuel := 16) (laidMet_of_run' 16 (by kernel_rfl) (by kernel_rfl)) (by kernel_rfl) (by kernel_rfl)

/-- What came in as a slice of numbers. -/
def IsRow (k : IntKind) (w : World) (a : Option Addr) (len cap : Nat) (zs : List Int) : Prop :=
  (a = none ∧ len = 0 ∧ cap = 0 ∧ zs = []) ∨
  ∃ x, a = some x ∧ len ≤ cap ∧ cap ≤ maxLen ∧ zs.length = cap ∧ (∀ i, i < zs.length → w.cell? (x.add i) = some (.int k (zs.getD i 0))) ∧ ∀ n ∈ zs, (Lit.int k n).wf = true
theorem IsRow.le {k : IntKind} {w : World} {a : Option Addr} {len cap : Nat} {zs : List Int} (h : IsRow k w a len cap zs) : len ≤ cap ∧ cap ≤ maxLen := by
  rcases h with ⟨_, rfl, rfl, _⟩ | ⟨_, _, h1, h2, _⟩
  · exact ⟨Nat.le_refl _, by decide⟩
  · exact ⟨h1, h2⟩
theorem IsRow.at {k : IntKind} {w : World} {a : Option Addr} {len cap : Nat} {zs : List Int} (h : IsRow k w a len cap zs) (M : Nat) (hM : ∀ n, (Lit.int k n).wf = true → ∃ x : Nat, x < M ∧ n = x) (h0 : 0 < len) :
    ∃ b o, a = some ⟨b, o, none⟩ ∧ ∀ j, j < len → ∃ x : Nat, x < M ∧ w.cell? ⟨b, o + j, none⟩ = some (.int k x) := by
  rcases h with ⟨_, h1, _⟩ | ⟨x, rfl, hl, hm, hz, hcell, hwz⟩
  · omega
  · obtain ⟨b, off, spot⟩ := x
    have hc := hcell 0 (by omega)
    have hspot : spot = none := by simpa [Addr.add] using World.cell?_spot hc
    subst hspot
    refine ⟨b, off, rfl, fun j hj => ?_⟩
    have hc := hcell j (by omega)
    have hj : j < zs.length := by omega
    have hw := hwz _ (List.getElem_mem hj)
    obtain ⟨y, hy, e⟩ := hM _ hw
    refine ⟨y, hy, ?_⟩
    rw [List.getD_eq_getElem?_getD, List.getElem?_eq_getElem hj, Option.getD_some, e, Lib.addr_add] at hc
    exact hc

set_option maxRecDepth 100000 in
theorem lifted (os : Os) (started : os.Started) (H : Type) (enc : TypeId × Value → H) :
    ReturnsInHanded {} Tryz.checked os 3 .any (fun w args => (Rows.fnExactSpec.pre enc Tryz.prog Tryz.f3 [] false w args ∧ laidMetH Tryz.prog Rows.fnExactRow.laid w) ∧ sizedMet enc Tryz.prog Tryz.f3 (OpenSpec.ofChange Rows.fnExactSpec) false w args)
      (Rows.fnExactSpec.post enc Tryz.prog Tryz.f3 false true false false) := by
  refine returnsInHanded_of_change_and (C := Tryz.checked) (X := fun w _ => laidMetH Tryz.prog Rows.fnExactRow.laid w) (fun _ _ _ hh h => h.of_heap hh) Tryz.own started (by kernel_rfl) Tryz.func3
    (ChangeSpec.witness_shaped (enc := enc) (C := Tryz.checked) (os := os) (X := fun w _ => laidMetH Tryz.prog Rows.fnExactRow.laid w) false (World.doorLaid Tryz.prog 400 os) #[.int .u32 0, .slice none 0 0, .slice none 0 0, .slice none 0 0] 8 rfl (World.shaped_of_RefB (by kernel_rfl) (by kernel_rfl)) (by kernel_rfl) (by kernel_rfl) (by kernel_rfl) (door_met os _)) ?_
  intro W base args ds gs before hval0 hW _ _ hL _
  have hval : ∀ (j : Nat) t v, Tryz.f3.params[j]? = some t → args[j]? = some v → Value.okWide Tryz.prog W .any base t v := hval0
  have hW' := hW
  obtain ⟨p, q, hA0, hV0, rfl, hfz, hnd⟩ := hW
  have hA : DataW.TrodAll enc Tryz.prog W 0 (fun _ => true) true Tryz.f3.params.toList args.toList ds p := hA0
  have hV : DataW.TrodVars enc Tryz.prog W (fun _ => true) ["loop.example/pub-g03472/pub/flac/frame.nChannels"] gs q := hV0
  rw [Tryz.params3] at hA hval
  obtain ⟨v0, vs0, d0, ds0, p0, q0, hargs, rfl, rfl, h0, r0⟩ := trodAll_cons hA
  obtain ⟨v1, vs1, d1, ds1, p1, q1, rfl, rfl, rfl, h1, r1⟩ := trodAll_cons r0
  obtain ⟨v2, vs2, d2, ds2, p2, q2, rfl, rfl, rfl, h2, r2⟩ := trodAll_cons r1
  obtain ⟨v3, vs3, d3, ds3, p3, q3, rfl, rfl, rfl, h3, r3⟩ := trodAll_cons r2
  obtain ⟨rfl, rfl, rfl⟩ := trodAll_nil r3
  obtain rfl : args = #[v0, v1, v2, v3] := by cases args; simp_all
  obtain ⟨a0, rfl, rfl, rfl, w0⟩ := open_int Tryz.underlying22 (hval 0 22 v0 rfl rfl) h0
  obtain ⟨a1, len1, cap1, rfl⟩ := okWide_slice Tryz.underlying23 (hval 1 23 v1 rfl rfl)
  obtain ⟨a2, len2, cap2, rfl⟩ := okWide_slice Tryz.underlying23 (hval 2 23 v2 rfl rfl)
  obtain ⟨a3, len3, cap3, rfl⟩ := okWide_slice Tryz.underlying24 (hval 3 24 v3 rfl rfl)
  have k1 := h1
  have k2 := h2
  have k3 := h3
  have lt1 : ∀ x ∈ p1, x.block < W.heap.size := by obtain ⟨m, hm⟩ := k1; exact DataW.trod_lt m _ _ _ hm
  have lt2 : ∀ x ∈ p2, x.block < W.heap.size := by obtain ⟨m, hm⟩ := k2; exact DataW.trod_lt m _ _ _ hm
  have lt3 : ∀ x ∈ p3, x.block < W.heap.size := by obtain ⟨m, hm⟩ := k3; exact DataW.trod_lt m _ _ _ hm
  have row : ∀ {t e : TypeId} {k : IntKind} {a : Option Addr} {len cap : Nat} {d : DataW H} {pp : List MemPlace}, Tryz.prog.underlying t = some (.slice e) → Tryz.prog.underlying e = some (.int k) → Tryz.prog.cellsOf e = 1 →
      DataW.Trod enc Tryz.prog W 0 (fun _ => true) true t (.slice a len cap) d pp → ∃ zs, IsRow k W a len cap zs := fun ht he hc h => by
    obtain ⟨fuel, hf⟩ := h
    rcases open_ints ht he hc hf with ⟨hcs, _⟩ | ⟨x, l, c, zs, hcs, _, hl, hm, hz, _, hcell, hwz⟩
    · simp [Value.cells] at hcs
      obtain ⟨rfl, rfl, rfl⟩ := hcs
      exact ⟨[], .inl ⟨rfl, rfl, rfl, rfl⟩⟩
    · simp [Value.cells] at hcs
      obtain ⟨rfl, rfl, rfl⟩ := hcs
      exact ⟨zs, .inr ⟨_, rfl, hl, hm, by simpa using hz, hcell, hwz⟩⟩
  obtain ⟨z1, w1⟩ := row Tryz.underlying23 Tryz.underlying5 (by kernel_rfl) h1
  obtain ⟨z2, w2⟩ := row Tryz.underlying23 Tryz.underlying5 (by kernel_rfl) h2
  obtain ⟨z3, w3⟩ := row Tryz.underlying24 Tryz.underlying49 (by kernel_rfl) h3
  have hN := nch_of hL
  clear hA0 hval0 hV0
  have u8 : ∀ n, (Lit.int .u8 n).wf = true → ∃ x : Nat, x < 256 ∧ n = x := fun n hn => by
    have h1 : IntKind.u8.min ≤ n ∧ n ≤ IntKind.u8.max := by simpa [Lit.wf, IntKind.has] using hn
    have h2 : IntKind.u8.min = 0 := rfl
    have h3 : IntKind.u8.max = 255 := rfl
    exact ⟨n.toNat, by omega, by omega⟩
  have u16 : ∀ n, (Lit.int .u16 n).wf = true → ∃ x : Nat, x < 65536 ∧ n = x := fun n hn => by
    have h1 : IntKind.u16.min ≤ n ∧ n ≤ IntKind.u16.max := by simpa [Lit.wf, IntKind.has] using hn
    have h2 : IntKind.u16.min = 0 := rfl
    have h3 : IntKind.u16.max = 65535 := rfl
    exact ⟨n.toNat, by omega, by omega⟩
  obtain ⟨F, hF, rfl⟩ : ∃ F : Nat, F < 4294967296 ∧ a0 = F := by
    have h1 : IntKind.u32.min ≤ a0 ∧ a0 ≤ IntKind.u32.max := by simpa [Lit.wf, IntKind.has] using w0
    have h2 : IntKind.u32.min = 0 := rfl
    have h3 : IntKind.u32.max = 4294967295 := rfl
    exact ⟨a0.toNat, by omega, by omega⟩
  refine (lawFn F len1 cap1 len2 cap2 len3 cap3 a1 a2 a3 W hF w1.le.1 w2.le.1 (w1.at 256 u8) (w2.at 256 u8) (w3.at 65536 u16) hN).mono fun e W' ⟨he, bel⟩ => ?_
  subst he
  obtain ⟨g1, rfl⟩ : ∃ g1, gs = [g1] := by
    obtain ⟨g, t, cs, fuel, d, p', rfl, _⟩ := trodVars_one hV
    exact ⟨_, rfl⟩
  have hV2 := Below.trodVars Tryz.laidOut bel (by kernel_rfl) hV
  exact ⟨_, rfl, _, _, _, [], _, _, hW', trodAll_mk1 (shut_bool Tryz.underlying4 _), (trodAll_cons_mk (shut_int Tryz.underlying22 w0) (trodAll_cons_mk (Below.trod Tryz.laidOut (by kernel_rfl) (of_decide_eq_true (by kernel_rfl)) k1 bel lt1) (trodAll_cons_mk (Below.trod Tryz.laidOut (by kernel_rfl) (of_decide_eq_true (by kernel_rfl)) k2 bel lt2) (trodAll_cons_mk (Below.trod Tryz.laidOut (by kernel_rfl) (of_decide_eq_true (by kernel_rfl)) k3 bel lt3) trodAll_mk0)))), hV2, bel.frame _, fun h => by cases h⟩

theorem f_holds : Rows.FnExactSaid :=
  OpenClaim.holds_of_wide 3 Tryz.f3 rfl rfl rfl rfl rfl rfl rfl ⟨rfl, rfl, rfl, rfl, rfl⟩ rfl rfl rfl rfl rfl (by kernel_rfl) Tryz.func3 (by kernel_rfl)
    (of_decide_eq_true (by kernel_rfl)) (by unfold Func.isWrapper; first | (rw [if_pos (by decide +kernel)]; kernel_rfl) | (rw [if_neg (by decide +kernel)]; exact ⟨rfl, rfl⟩))
    (fun os started H enc _ => lifted os started H enc)

/-- The tied card. -/
theorem fnExact_proved : Rows.FnExactCardSaid :=
  Claim7.holds_tied_plain_at .later [] [.sentinel, .sentinel, .sentinel, .data] true (true, "cead06e02b7062cb323b8e621069ad6c10269af5585ee1565f0bd01716e783e5") true
    f_holds (fun _ h => by cases h) (by kernel_rfl) (fun _ h => by cases h) fnExact_row_tie rfl ⟨rfl, rfl⟩ (by kernel_rfl) rfl
    (fun f fn hf hfn => by
      obtain rfl : f = 3 := Option.some.inj ((show Tryz.prog.funcNamed "loop.example/pub-g03472/laws.FnExact" = some 3 by kernel_rfl).symm.trans hf) |>.symm
      obtain rfl : fn = Tryz.f3 := (Option.some.inj (Tryz.func3.symm.trans hfn)).symm
      exact ⟨by kernel_rfl, fun j t ht => by
        rw [Tryz.params3] at ht
        have hm : t ∈ [22, 23, 23, 24] := by simpa using Array.mem_of_getElem? ht
        have hall : ([22, 23, 23, 24].all fun u => !Tryz.prog.wantsStandIn u) = true := by kernel_rfl
        exact (show Tryz.prog.wantsStandIn t = false by simpa using List.all_eq_true.1 hall t hm)⟩)
    (by kernel_rfl)
end Go.Proofs.YtemcpcgcnjahjaaGreatDoor
