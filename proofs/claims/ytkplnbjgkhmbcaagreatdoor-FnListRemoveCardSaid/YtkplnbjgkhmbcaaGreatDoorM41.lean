/- The closed facts of the row of FnListRemove, each by itself (so that no one Lean process wants too much memory). -/
import Derived.Test.YtkplnbjgkhmbcaaGreatDoorCards
import Derived.ProofKit
import Derived.OpenVars
import Derived.Deep.DeepHandedRow
namespace Go.Proofs.YtkplnbjgkhmbcaaGreatDoor.fnListRemove
open Go.ChangeShapes Go.WideShapes Go.ChangeAt Go.RowKit
theorem c10 : (Rows.fnListRemoveRow.inPlace == Tryz.pinned.checked.prog.inPlace 7) = true := by kernel_rfl
theorem c11 : (Rows.fnListRemoveRow.unfollowed == Tryz.pinned.checked.prog.unfollowed 7) = true := by kernel_rfl
theorem c12 : (Rows.fnListRemoveRow.recurses == Tryz.pinned.checked.prog.recurses 7) = true := by kernel_rfl
theorem c13 : (Rows.fnListRemoveRow.named == Tryz.pinned.checked.prog.varsNamed 7) = true := by kernel_rfl
theorem closed : joinedFacts Tryz.pinned.checked.prog 7 Tryz.f7 (OpenSpec.ofChange Rows.fnListRemoveSpec).bare Rows.fnListRemoveRow = true := by
  unfold joinedFacts
  rw [c10, c11, c12, c13]
  kernel_rfl
end Go.Proofs.YtkplnbjgkhmbcaaGreatDoor.fnListRemove
