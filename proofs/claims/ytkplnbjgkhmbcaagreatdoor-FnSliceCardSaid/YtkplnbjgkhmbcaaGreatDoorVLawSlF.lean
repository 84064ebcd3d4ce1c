/- The closed facts of the row of FnSlice, each by itself (so that no one Lean process wants too much memory). -/
import Derived.Test.YtkplnbjgkhmbcaaGreatDoorCards
import Derived.ProofKit
import Derived.OpenVars
import Derived.Deep.DeepHandedRow
namespace Go.Proofs.YtkplnbjgkhmbcaaGreatDoor.fnSlice
open Go.ChangeShapes Go.WideShapes Go.ChangeAt Go.RowKit
theorem c10:(Rows.fnSliceRow.inPlace==Tryz.pinned.checked.prog.inPlace 6)=true:=by kernel_rfl
theorem c11:(Rows.fnSliceRow.unfollowed==Tryz.pinned.checked.prog.unfollowed 6)=true:=by kernel_rfl
theorem c12:(Rows.fnSliceRow.recurses==Tryz.pinned.checked.prog.recurses 6)=true:=by kernel_rfl
theorem c13:(Rows.fnSliceRow.named==Tryz.pinned.checked.prog.varsNamed 6)=true:=by kernel_rfl
theorem closed:joinedFacts Tryz.pinned.checked.prog 6 Tryz.f6 (OpenSpec.ofChange Rows.fnSliceSpec).bare Rows.fnSliceRow=true:=by
 unfold joinedFacts
 rw[c10,c11,c12,c13]
 kernel_rfl
end Go.Proofs.YtkplnbjgkhmbcaaGreatDoor.fnSlice
