/-
  DERIVED. GIVEN WITH THE SEED: THE CARDS: each row of YtkkmnglnnfmnaaaGreatDoorRows.lean that lists a variable, with what it lists TIED to the program's text (the seventh form; the later family's looks); each row that meets fmt, with fmt's text TOLD by the authors' own Lean function (tested against real Go, not proved from fmt's source: count such statements apart). THE CARD IS WHAT COUNTS. Prove the row's statement (the work); the ties are given (YtkkmnglnnfmnaaaGreatDoorTie.lean); close each card by the builder's one call (the guide's Derived/Test/ToyasCard.lean, 'card_holds'). Laid BY PROGRAM, IN A SANDBOX (cutbox-door.mjs). By AI agents, Wed Nov 11 2026. No macro, syntax, notation, axiom, sorry.
-/
import Derived.Test.YtkkmnglnnfmnaaaGreatDoorRows
import GoSem.ClaimSeven
namespace Go.Proofs.YtkkmnglnnfmnaaaGreatDoor
namespace Rows

/-- THE TIED CARD OF 'laws.FnAsInt32'. -/
def fnAsInt32Card : Claim7 := { stood := { row := fnAsInt32Row, standIns := [], harness := (true, "bc89b6f397f91be3d12da785ebd92fa71f4418ecb5de21cce6c394a5cfad095b"), looks := true }, kinds := [], alts := [], laidByText := true, laidKinds := [.data, .data, .data, .data, .data], laidTests := true, laidLooks := .later }
def FnAsInt32CardSaid : Prop := Claim7.holds Tryz.pinned (.plain (OpenSpec.ofChange fnAsInt32Spec)) fnAsInt32Card

/-- THE SECOND FORM's CARD OF 'laws.FnAsInt32'. -/
def fnAsInt32UptoCard : Claim7 := { stood := { row := fnAsInt32UptoRow, standIns := [], harness := (true, "bc89b6f397f91be3d12da785ebd92fa71f4418ecb5de21cce6c394a5cfad095b"), looks := true }, kinds := [], alts := [], laidByText := true, laidKinds := [.data, .data, .data, .data, .data], laidTests := true, laidLooks := .later }
def FnAsInt32UptoCardSaid : Prop := Claim7.holds Tryz.pinned (.plain (OpenSpec.upto fnAsInt32Spec)) fnAsInt32UptoCard
end Rows
end Go.Proofs.YtkkmnglnnfmnaaaGreatDoor
