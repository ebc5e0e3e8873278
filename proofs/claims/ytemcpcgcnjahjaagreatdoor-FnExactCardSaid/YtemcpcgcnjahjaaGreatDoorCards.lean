/-
  DERIVED. GIVEN WITH THE SEED: THE CARDS: each row of YtemcpcgcnjahjaaGreatDoorRows.lean that lists a variable, with what it lists TIED to the program's text (the seventh form; the later family's looks); each row that meets fmt, with fmt's text TOLD by the authors' own Lean function (tested against real Go, not proved from fmt's source: count such statements apart). THE CARD IS WHAT COUNTS. Prove the row's statement (the work); the ties are given (YtemcpcgcnjahjaaGreatDoorTie.lean); close each card by the builder's one call (the guide's Derived/Test/ToyasCard.lean, 'card_holds'). Laid BY PROGRAM, IN A SANDBOX (cutbox-door.mjs). By AI agents, Wed Nov 11 2026. No macro, syntax, notation, axiom, sorry.
-/
import Derived.Test.YtemcpcgcnjahjaaGreatDoorRows
import GoSem.ClaimSeven
namespace Go.Proofs.YtemcpcgcnjahjaaGreatDoor
namespace Rows

/-- THE TIED CARD OF 'laws.FnExact'. -/
def fnExactCard : Claim7 := { stood := { row := fnExactRow, standIns := [], harness := (true, "cead06e02b7062cb323b8e621069ad6c10269af5585ee1565f0bd01716e783e5"), looks := true }, kinds := [], alts := [], laidByText := true, laidKinds := [.sentinel, .sentinel, .sentinel, .data], laidTests := true, laidLooks := .later }
def FnExactCardSaid : Prop := Claim7.holds Tryz.pinned (.plain (OpenSpec.ofChange fnExactSpec)) fnExactCard

/-- THE SECOND FORM's CARD OF 'laws.FnExact'. -/
def fnExactUptoCard : Claim7 := { stood := { row := fnExactUptoRow, standIns := [], harness := (true, "cead06e02b7062cb323b8e621069ad6c10269af5585ee1565f0bd01716e783e5"), looks := true }, kinds := [], alts := [], laidByText := true, laidKinds := [.sentinel, .sentinel, .sentinel, .data], laidTests := true, laidLooks := .later }
def FnExactUptoCardSaid : Prop := Claim7.holds Tryz.pinned (.plain (OpenSpec.upto fnExactSpec)) fnExactUptoCard
end Rows
end Go.Proofs.YtemcpcgcnjahjaaGreatDoor
