/- The closed facts of the row of FnCompare, each by itself (so that no one Lean process wants too much memory). -/
import Derived.Test.YtkplnbjgkhmbcaaGreatDoorCards
import Derived.ProofKit
import Derived.OpenVars
import Derived.Deep.DeepHandedRow
namespace Go.Proofs.YtkplnbjgkhmbcaaGreatDoor.fnCompare
open Go.ChangeShapes Go.WideShapes Go.ChangeAt Go.RowKit
theorem c10 : (Rows.fnCompareRow.inPlace == Tryz.pinned.checked.prog.inPlace 5) = true := by kernel_rfl
theorem c11 : (Rows.fnCompareRow.unfollowed == Tryz.pinned.checked.prog.unfollowed 5) = true := by kernel_rfl
theorem c12 : (Rows.fnCompareRow.recurses == Tryz.pinned.checked.prog.recurses 5) = true := by kernel_rfl
theorem c13 : (Rows.fnCompareRow.named == Tryz.pinned.checked.prog.varsNamed 5) = true := by kernel_rfl
theorem closed : joinedFacts Tryz.pinned.checked.prog 5 Tryz.f5 (OpenSpec.ofChange Rows.fnCompareSpec).bare Rows.fnCompareRow = true := by
  unfold joinedFacts
  rw [c10, c11, c12, c13]
  kernel_rfl
end Go.Proofs.YtkplnbjgkhmbcaaGreatDoor.fnCompare
