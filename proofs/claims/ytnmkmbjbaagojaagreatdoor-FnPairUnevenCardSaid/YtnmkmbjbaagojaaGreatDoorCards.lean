/-
  DERIVED. GIVEN WITH THE SEED: THE CARDS: each row of YtnmkmbjbaagojaaGreatDoorRows.lean that lists a variable, with what it lists TIED to the program's text (the seventh form; the later family's looks); each row that meets fmt, with fmt's text TOLD by the authors' own Lean function (tested against real Go, not proved from fmt's source: count such statements apart). THE CARD IS WHAT COUNTS. Prove the row's statement (the work); the ties are given (YtnmkmbjbaagojaaGreatDoorTie.lean); close each card by the builder's one call (the guide's Derived/Test/ToyasCard.lean, 'card_holds'). Laid BY PROGRAM, IN A SANDBOX (cutbox-door.mjs). By AI agents, Wed Nov 11 2026. No macro, syntax, notation, axiom, sorry.
-/
import Derived.Test.YtnmkmbjbaagojaaGreatDoorRows
import GoSem.ClaimSeven
namespace Go.Proofs.YtnmkmbjbaagojaaGreatDoor
namespace Rows

/-- THE TIED CARD OF 'laws.FnPairUneven'. -/
def fnPairUnevenCard : Claim7 := { stood := { row := fnPairUnevenRow, standIns := [], harness := (true, "f659e196afbe3fac90de769e7f033cf3623667751ca0529d13082f7595721d43"), looks := true }, kinds := [], alts := [], laidByText := true, laidKinds := [.sentinel, .sentinel, .sentinel, .sentinel], laidTests := true, laidLooks := .later }
def FnPairUnevenCardSaid : Prop := Claim7.holds Tryz.pinned (.plain (OpenSpec.ofChange fnPairUnevenSpec)) fnPairUnevenCard

/-- THE SECOND FORM's CARD OF 'laws.FnPairUneven'. -/
def fnPairUnevenUptoCard : Claim7 := { stood := { row := fnPairUnevenUptoRow, standIns := [], harness := (true, "f659e196afbe3fac90de769e7f033cf3623667751ca0529d13082f7595721d43"), looks := true }, kinds := [], alts := [], laidByText := true, laidKinds := [.sentinel, .sentinel, .sentinel, .sentinel], laidTests := true, laidLooks := .later }
def FnPairUnevenUptoCardSaid : Prop := Claim7.holds Tryz.pinned (.plain (OpenSpec.upto fnPairUnevenSpec)) fnPairUnevenUptoCard
end Rows
end Go.Proofs.YtnmkmbjbaagojaaGreatDoor
