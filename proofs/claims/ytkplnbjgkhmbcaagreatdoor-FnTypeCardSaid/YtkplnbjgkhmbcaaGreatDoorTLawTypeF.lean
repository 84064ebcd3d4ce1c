/- The closed facts of the row of FnType, each by itself (so that no one Lean process wants too much memory). -/
import Derived.Test.YtkplnbjgkhmbcaaGreatDoorCards
import Derived.ProofKit
import Derived.OpenVars
import Derived.Deep.DeepHandedRow
namespace Go.Proofs.YtkplnbjgkhmbcaaGreatDoor.fnType
open Go.ChangeShapes Go.WideShapes Go.ChangeAt Go.RowKit
theorem c10 : (Rows.fnTypeRow.inPlace == Tryz.pinned.checked.prog.inPlace 3) = true := by kernel_rfl
theorem c11 : (Rows.fnTypeRow.unfollowed == Tryz.pinned.checked.prog.unfollowed 3) = true := by kernel_rfl
theorem c12 : (Rows.fnTypeRow.recurses == Tryz.pinned.checked.prog.recurses 3) = true := by kernel_rfl
theorem c13 : (Rows.fnTypeRow.named == Tryz.pinned.checked.prog.varsNamed 3) = true := by kernel_rfl
theorem closed : joinedFacts Tryz.pinned.checked.prog 3 Tryz.f3 (OpenSpec.ofChange Rows.fnTypeSpec).bare Rows.fnTypeRow = true := by
  unfold joinedFacts
  rw [c10, c11, c12, c13]
  kernel_rfl
end Go.Proofs.YtkplnbjgkhmbcaaGreatDoor.fnType
