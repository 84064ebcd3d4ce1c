/- The closed facts of the row of FnCompareDepth, each by itself (so that no one Lean process wants too much memory). -/
import Derived.Test.YtkplnbjgkhmbcaaGreatDoorCards
import Derived.ProofKit
import Derived.OpenVars
import Derived.Deep.DeepHandedRow
namespace Go.Proofs.YtkplnbjgkhmbcaaGreatDoor.fnCompareDepth
open Go.ChangeShapes Go.WideShapes Go.ChangeAt Go.RowKit
theorem c10:(Rows.fnCompareDepthRow.inPlace==Tryz.pinned.checked.prog.inPlace 4)=true:=by kernel_rfl
theorem c11:(Rows.fnCompareDepthRow.unfollowed==Tryz.pinned.checked.prog.unfollowed 4)=true:=by kernel_rfl
theorem c12:(Rows.fnCompareDepthRow.recurses==Tryz.pinned.checked.prog.recurses 4)=true:=by kernel_rfl
theorem c13:(Rows.fnCompareDepthRow.named==Tryz.pinned.checked.prog.varsNamed 4)=true:=by kernel_rfl
theorem closed:joinedFacts Tryz.pinned.checked.prog 4 Tryz.f4 (OpenSpec.ofChange Rows.fnCompareDepthSpec).bare Rows.fnCompareDepthRow=true:=by
 unfold joinedFacts
 rw[c10,c11,c12,c13]
 kernel_rfl
end Go.Proofs.YtkplnbjgkhmbcaaGreatDoor.fnCompareDepth
