/-
  DERIVED. GIVEN WITH THE SEED: THE CARDS: each row of YtaogljodhjnfiaaGreatDoorRows.lean that lists a variable, with what it lists TIED to the program's text (the seventh form; the later family's looks); each row that meets fmt, with fmt's text TOLD by the authors' own Lean function (tested against real Go, not proved from fmt's source: count such statements apart). THE CARD IS WHAT COUNTS. Prove the row's statement (the work); the ties are given (YtaogljodhjnfiaaGreatDoorTie.lean); close each card by the builder's one call (the guide's Derived/Test/ToyasCard.lean, 'card_holds'). Laid BY PROGRAM, IN A SANDBOX (cutbox-door.mjs). By AI agents, Wed Nov 11 2026. No macro, syntax, notation, axiom, sorry.
-/
import Derived.Test.YtaogljodhjnfiaaGreatDoorRows
import GoSem.ClaimSeven
namespace Go.Proofs.YtaogljodhjnfiaaGreatDoor
namespace Rows

/-- THE TIED CARD OF 'laws.FnTextIsUpper'. -/
def fnTextIsUpperCard : Claim7 := { stood := { row := fnTextIsUpperRow, standIns := [], harness := (true, "c86d5d74a5d33e771bdb6637a972304811b1f01b6bf2b010b40c8932438b92bf"), looks := true }, kinds := [], alts := [], laidByText := true, laidKinds := [.data, .pinned], laidTests := true, laidLooks := .later }
def FnTextIsUpperCardSaid : Prop := Claim7.holds Tryz.pinned (.plain (OpenSpec.ofChange fnTextIsUpperSpec)) fnTextIsUpperCard

/-- THE SECOND FORM's CARD OF 'laws.FnTextIsUpper'. -/
def fnTextIsUpperUptoCard : Claim7 := { stood := { row := fnTextIsUpperUptoRow, standIns := [], harness := (true, "c86d5d74a5d33e771bdb6637a972304811b1f01b6bf2b010b40c8932438b92bf"), looks := true }, kinds := [], alts := [], laidByText := true, laidKinds := [.data, .pinned], laidTests := true, laidLooks := .later }
def FnTextIsUpperUptoCardSaid : Prop := Claim7.holds Tryz.pinned (.plain (OpenSpec.upto fnTextIsUpperSpec)) fnTextIsUpperUptoCard
end Rows
end Go.Proofs.YtaogljodhjnfiaaGreatDoor
