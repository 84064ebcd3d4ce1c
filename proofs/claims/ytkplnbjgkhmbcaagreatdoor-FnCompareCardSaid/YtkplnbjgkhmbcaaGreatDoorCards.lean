/-
  DERIVED. GIVEN WITH THE SEED: THE CARDS: each row of YtkplnbjgkhmbcaaGreatDoorRows.lean that lists a variable, with what it lists TIED to the program's text (the seventh form; the later family's looks); each row that meets fmt, with fmt's text TOLD by the authors' own Lean function (tested against real Go, not proved from fmt's source: count such statements apart). THE CARD IS WHAT COUNTS. Prove the row's statement (the work); the ties are given (YtkplnbjgkhmbcaaGreatDoorTie.lean); close each card by the builder's one call (the guide's Derived/Test/ToyasCard.lean, 'card_holds'). Laid BY PROGRAM, IN A SANDBOX (cutbox-door.mjs). By AI agents, Wed Nov 11 2026. No macro, syntax, notation, axiom, sorry.
-/
import Derived.Test.YtkplnbjgkhmbcaaGreatDoorRows
import GoSem.ClaimSeven
namespace Go.Proofs.YtkplnbjgkhmbcaaGreatDoor
namespace Rows

/-- THE TIED CARD OF 'laws.FnType'. -/
def fnTypeCard : Claim7 := { stood := { row := fnTypeRow, standIns := [], harness := (true, "656a2b7da92bb9edd66cc74ed3c37316a852c45b26b793d3a11a6776a1ebd40a"), looks := true }, kinds := [], alts := [], laidByText := true, laidKinds := [.data, .data, .data, .data, .data], laidTests := true, laidLooks := .later }
def FnTypeCardSaid : Prop := Claim7.holds Tryz.pinned (.plain (OpenSpec.ofChange fnTypeSpec)) fnTypeCard

/-- THE TIED CARD OF 'laws.FnCompareDepth'. -/
def fnCompareDepthCard : Claim7 := { stood := { row := fnCompareDepthRow, standIns := [], harness := (true, "656a2b7da92bb9edd66cc74ed3c37316a852c45b26b793d3a11a6776a1ebd40a"), looks := true }, kinds := [], alts := [], laidByText := true, laidKinds := [.data, .data, .data, .data, .data], laidTests := true, laidLooks := .later }
def FnCompareDepthCardSaid : Prop := Claim7.holds Tryz.pinned (.plain (OpenSpec.ofChange fnCompareDepthSpec)) fnCompareDepthCard

/-- THE TIED CARD OF 'laws.FnCompare'. -/
def fnCompareCard : Claim7 := { stood := { row := fnCompareRow, standIns := [], harness := (true, "656a2b7da92bb9edd66cc74ed3c37316a852c45b26b793d3a11a6776a1ebd40a"), looks := true }, kinds := [], alts := [], laidByText := true, laidKinds := [.data, .data, .data, .data, .data], laidTests := true, laidLooks := .later }
def FnCompareCardSaid : Prop := Claim7.holds Tryz.pinned (.plain (OpenSpec.ofChange fnCompareSpec)) fnCompareCard

/-- THE TIED CARD OF 'laws.FnSlice'. -/
def fnSliceCard : Claim7 := { stood := { row := fnSliceRow, standIns := [], harness := (true, "656a2b7da92bb9edd66cc74ed3c37316a852c45b26b793d3a11a6776a1ebd40a"), looks := true }, kinds := [], alts := [], laidByText := true, laidKinds := [.data, .data, .data, .data, .data], laidTests := true, laidLooks := .later }
def FnSliceCardSaid : Prop := Claim7.holds Tryz.pinned (.plain (OpenSpec.ofChange fnSliceSpec)) fnSliceCard

/-- THE TIED CARD OF 'laws.FnListRemove'. -/
def fnListRemoveCard : Claim7 := { stood := { row := fnListRemoveRow, standIns := [], harness := (true, "656a2b7da92bb9edd66cc74ed3c37316a852c45b26b793d3a11a6776a1ebd40a"), looks := true }, kinds := [], alts := [], laidByText := true, laidKinds := [.data, .data, .data, .data, .data], laidTests := true, laidLooks := .later }
def FnListRemoveCardSaid : Prop := Claim7.holds Tryz.pinned (.plain (OpenSpec.ofChange fnListRemoveSpec)) fnListRemoveCard

/-- THE SECOND FORM's CARD OF 'laws.FnType'. -/
def fnTypeUptoCard : Claim7 := { stood := { row := fnTypeUptoRow, standIns := [], harness := (true, "656a2b7da92bb9edd66cc74ed3c37316a852c45b26b793d3a11a6776a1ebd40a"), looks := true }, kinds := [], alts := [], laidByText := true, laidKinds := [.data, .data, .data, .data, .data], laidTests := true, laidLooks := .later }
def FnTypeUptoCardSaid : Prop := Claim7.holds Tryz.pinned (.plain (OpenSpec.upto fnTypeSpec)) fnTypeUptoCard

/-- THE SECOND FORM's CARD OF 'laws.FnCompareDepth'. -/
def fnCompareDepthUptoCard : Claim7 := { stood := { row := fnCompareDepthUptoRow, standIns := [], harness := (true, "656a2b7da92bb9edd66cc74ed3c37316a852c45b26b793d3a11a6776a1ebd40a"), looks := true }, kinds := [], alts := [], laidByText := true, laidKinds := [.data, .data, .data, .data, .data], laidTests := true, laidLooks := .later }
def FnCompareDepthUptoCardSaid : Prop := Claim7.holds Tryz.pinned (.plain (OpenSpec.upto fnCompareDepthSpec)) fnCompareDepthUptoCard

/-- THE SECOND FORM's CARD OF 'laws.FnCompare'. -/
def fnCompareUptoCard : Claim7 := { stood := { row := fnCompareUptoRow, standIns := [], harness := (true, "656a2b7da92bb9edd66cc74ed3c37316a852c45b26b793d3a11a6776a1ebd40a"), looks := true }, kinds := [], alts := [], laidByText := true, laidKinds := [.data, .data, .data, .data, .data], laidTests := true, laidLooks := .later }
def FnCompareUptoCardSaid : Prop := Claim7.holds Tryz.pinned (.plain (OpenSpec.upto fnCompareSpec)) fnCompareUptoCard

/-- THE SECOND FORM's CARD OF 'laws.FnSlice'. -/
def fnSliceUptoCard : Claim7 := { stood := { row := fnSliceUptoRow, standIns := [], harness := (true, "656a2b7da92bb9edd66cc74ed3c37316a852c45b26b793d3a11a6776a1ebd40a"), looks := true }, kinds := [], alts := [], laidByText := true, laidKinds := [.data, .data, .data, .data, .data], laidTests := true, laidLooks := .later }
def FnSliceUptoCardSaid : Prop := Claim7.holds Tryz.pinned (.plain (OpenSpec.upto fnSliceSpec)) fnSliceUptoCard

/-- THE SECOND FORM's CARD OF 'laws.FnListRemove'. -/
def fnListRemoveUptoCard : Claim7 := { stood := { row := fnListRemoveUptoRow, standIns := [], harness := (true, "656a2b7da92bb9edd66cc74ed3c37316a852c45b26b793d3a11a6776a1ebd40a"), looks := true }, kinds := [], alts := [], laidByText := true, laidKinds := [.data, .data, .data, .data, .data], laidTests := true, laidLooks := .later }
def FnListRemoveUptoCardSaid : Prop := Claim7.holds Tryz.pinned (.plain (OpenSpec.upto fnListRemoveSpec)) fnListRemoveUptoCard
end Rows
end Go.Proofs.YtkplnbjgkhmbcaaGreatDoor
