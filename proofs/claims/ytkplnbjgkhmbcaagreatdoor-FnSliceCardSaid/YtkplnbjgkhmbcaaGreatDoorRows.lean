/-
  NARROWER THAN 'FOR EVERY INPUT', by the rows' own cells (each row's printed sentence says how): FnType: loops, laid · FnCompareDepth: loops, laid · FnCompare: loops, laid · FnSlice: loops, laid · FnListRemove: loops, laid.
  DERIVED. THE GIVEN ROWS OF THIS SEAT. 5 by the template 'for every input the law returns true; each argument reads behind the call as it read before'; 0 by the template 'total and deterministic' (their statements: YtkplnbjgkhmbcaaGreatDoorTotals.lean).
  GIVEN WITH THE SEED: the statements are not yours to turn. If you find one false, say at which input.
  Laid BY PROGRAM, IN A SANDBOX (cutbox-rows.mjs): the forced cells as the released guide's own fill.sh prints them over the translation 93343390136d99fc… (all of the seat's roots in one cut). By AI agents, Wed Nov 11 2026. No macro, syntax, notation, axiom, sorry.
-/
import Derived.Test.YtkplnbjgkhmbcaaGreatDoorChecked
import GoSem.Claim
import GoSem.ClaimJoined
import GoSem.ClaimMapViews
import Derived.JoinedTies
import Derived.KernelRfl
namespace Go.Proofs.YtkplnbjgkhmbcaaGreatDoor
/- THE CELL 'sum', in the pinned program and in every row, IS THE sha256 OF THE DUMP (.gsa) THAT YtkplnbjgkhmbcaaGreatDoorProg.lean LOADS. Nothing in Lean hashes anything: it is a label: what it is worth is what the hold of that sum in a sandbox is worth. -/
noncomputable def Tryz.pinned : Pinned := { name := "ytkplnbjgkhmbcaagreatdoor", sum := "93343390136d99fcd920b1baea060d65d506e6da3ddff25de38a6a0c051f66b0", checked := Tryz.checked }
namespace Rows
def none {H : Type} : Left H := { results := [], args := [] }

/- WHAT THE LISTED PACKAGE-LEVEL VARIABLES READ AS WHEN THE CALL BEGINS. Each datum BY PROGRAM (the guide's laid-datum.mjs) off the statement by which the dump's own 'gosem.cut.vars' lays the variable. In a bare row this is a premise. The card (YtkplnbjgkhmbcaaGreatDoorCards.lean) ties it to the program's text. -/
def laid_given_example_pub_larkspur_pub_bigall_divRecursiveThreshold {H : Type} : DataW H := .lit (.int .i64 40)
def laid_given_example_pub_larkspur_pub_bigall_karatsubaThreshold {H : Type} : DataW H := .lit (.int .i64 40)
def laid_given_example_pub_larkspur_pub_bigall_basicSqrThreshold {H : Type} : DataW H := .lit (.int .i64 12)
def laid_given_example_pub_larkspur_pub_bigall_karatsubaSqrThreshold {H : Type} : DataW H := .lit (.int .i64 80)
def laid_given_example_pub_larkspur_pub_starlark_starlark_CompareLimit {H : Type} : DataW H := .lit (.int .i64 10)

/-- 'laws.FnType': WHATEVER THE INPUT: true; the input reads as it did. -/
def fnTypeSpec : ChangeSpec := { name := "fnType", vars := ["given.example/pub-larkspur/pub/starlark/starlark.CompareLimit", "given.example/pub-larkspur/pub/bigall.divRecursiveThreshold", "given.example/pub-larkspur/pub/bigall.karatsubaThreshold", "given.example/pub-larkspur/pub/bigall.basicSqrThreshold", "given.example/pub-larkspur/pub/bigall.karatsubaSqrThreshold"], fn := fun _ => fun
  | [d, g1, g2, g3, g4, g5] => { results := [.lit (.bool true)], args := [d], vars := [g1, g2, g3, g4, g5] }
  | _ => none }
def fnTypeRow : OpenClaim := { program := "ytkplnbjgkhmbcaagreatdoor", sum := "93343390136d99fcd920b1baea060d65d506e6da3ddff25de38a6a0c051f66b0", func := "given.example/pub-larkspur/laws.FnType", spec := "fnType", inPlace := ["math.Float64frombits", "math.Float64bits", "math/bits.Add64", "math/bits.Sub64"], unfollowed := true, recurses := true, named := ["given.example/pub-larkspur/pub/starlark/starlark.CompareLimit", "given.example/pub-larkspur/pub/bigall.divRecursiveThreshold", "given.example/pub-larkspur/pub/bigall.karatsubaThreshold", "given.example/pub-larkspur/pub/bigall.basicSqrThreshold", "given.example/pub-larkspur/pub/bigall.karatsubaSqrThreshold"], loops := true, apart := false, laid := [("given.example/pub-larkspur/pub/bigall.divRecursiveThreshold", laid_given_example_pub_larkspur_pub_bigall_divRecursiveThreshold), ("given.example/pub-larkspur/pub/bigall.karatsubaThreshold", laid_given_example_pub_larkspur_pub_bigall_karatsubaThreshold), ("given.example/pub-larkspur/pub/bigall.basicSqrThreshold", laid_given_example_pub_larkspur_pub_bigall_basicSqrThreshold), ("given.example/pub-larkspur/pub/bigall.karatsubaSqrThreshold", laid_given_example_pub_larkspur_pub_bigall_karatsubaSqrThreshold), ("given.example/pub-larkspur/pub/starlark/starlark.CompareLimit", laid_given_example_pub_larkspur_pub_starlark_starlark_CompareLimit)] }
def FnTypeSaid : Prop := fnTypeRow.holds Tryz.pinned (OpenSpec.ofChange fnTypeSpec)

/-- ITS FALSE NEIGHBOUR: 'it returns false'. Refute it at one input. -/
def fnTypeWrong : ChangeSpec := { name := "fnType", vars := ["given.example/pub-larkspur/pub/starlark/starlark.CompareLimit", "given.example/pub-larkspur/pub/bigall.divRecursiveThreshold", "given.example/pub-larkspur/pub/bigall.karatsubaThreshold", "given.example/pub-larkspur/pub/bigall.basicSqrThreshold", "given.example/pub-larkspur/pub/bigall.karatsubaSqrThreshold"], fn := fun _ => fun
  | [d, g1, g2, g3, g4, g5] => { results := [.lit (.bool false)], args := [d], vars := [g1, g2, g3, g4, g5] }
  | _ => none }
def FnTypeWrongFalsely : Prop := fnTypeRow.holds Tryz.pinned (OpenSpec.ofChange fnTypeWrong)

/-- 'laws.FnCompareDepth': WHATEVER THE INPUT: true; the input reads as it did. -/
def fnCompareDepthSpec : ChangeSpec := { name := "fnCompareDepth", vars := ["given.example/pub-larkspur/pub/starlark/starlark.CompareLimit", "given.example/pub-larkspur/pub/bigall.divRecursiveThreshold", "given.example/pub-larkspur/pub/bigall.karatsubaThreshold", "given.example/pub-larkspur/pub/bigall.basicSqrThreshold", "given.example/pub-larkspur/pub/bigall.karatsubaSqrThreshold"], fn := fun _ => fun
  | [d1, d2, d3, d4, g1, g2, g3, g4, g5] => { results := [.lit (.bool true)], args := [d1, d2, d3, d4], vars := [g1, g2, g3, g4, g5] }
  | _ => none }
def fnCompareDepthRow : OpenClaim := { program := "ytkplnbjgkhmbcaagreatdoor", sum := "93343390136d99fcd920b1baea060d65d506e6da3ddff25de38a6a0c051f66b0", func := "given.example/pub-larkspur/laws.FnCompareDepth", spec := "fnCompareDepth", inPlace := ["math.Float64frombits", "math.Float64bits", "math/bits.Add64", "math/bits.Sub64"], unfollowed := true, recurses := true, named := ["given.example/pub-larkspur/pub/starlark/starlark.CompareLimit", "given.example/pub-larkspur/pub/bigall.divRecursiveThreshold", "given.example/pub-larkspur/pub/bigall.karatsubaThreshold", "given.example/pub-larkspur/pub/bigall.basicSqrThreshold", "given.example/pub-larkspur/pub/bigall.karatsubaSqrThreshold"], loops := true, apart := false, laid := [("given.example/pub-larkspur/pub/bigall.divRecursiveThreshold", laid_given_example_pub_larkspur_pub_bigall_divRecursiveThreshold), ("given.example/pub-larkspur/pub/bigall.karatsubaThreshold", laid_given_example_pub_larkspur_pub_bigall_karatsubaThreshold), ("given.example/pub-larkspur/pub/bigall.basicSqrThreshold", laid_given_example_pub_larkspur_pub_bigall_basicSqrThreshold), ("given.example/pub-larkspur/pub/bigall.karatsubaSqrThreshold", laid_given_example_pub_larkspur_pub_bigall_karatsubaSqrThreshold), ("given.example/pub-larkspur/pub/starlark/starlark.CompareLimit", laid_given_example_pub_larkspur_pub_starlark_starlark_CompareLimit)] }
def FnCompareDepthSaid : Prop := fnCompareDepthRow.holds Tryz.pinned (OpenSpec.ofChange fnCompareDepthSpec)

/-- ITS FALSE NEIGHBOUR: 'it returns false'. Refute it at one input. -/
def fnCompareDepthWrong : ChangeSpec := { name := "fnCompareDepth", vars := ["given.example/pub-larkspur/pub/starlark/starlark.CompareLimit", "given.example/pub-larkspur/pub/bigall.divRecursiveThreshold", "given.example/pub-larkspur/pub/bigall.karatsubaThreshold", "given.example/pub-larkspur/pub/bigall.basicSqrThreshold", "given.example/pub-larkspur/pub/bigall.karatsubaSqrThreshold"], fn := fun _ => fun
  | [d1, d2, d3, d4, g1, g2, g3, g4, g5] => { results := [.lit (.bool false)], args := [d1, d2, d3, d4], vars := [g1, g2, g3, g4, g5] }
  | _ => none }
def FnCompareDepthWrongFalsely : Prop := fnCompareDepthRow.holds Tryz.pinned (OpenSpec.ofChange fnCompareDepthWrong)

/-- 'laws.FnCompare': WHATEVER THE INPUT: true; the input reads as it did. -/
def fnCompareSpec : ChangeSpec := { name := "fnCompare", vars := ["given.example/pub-larkspur/pub/starlark/starlark.CompareLimit", "given.example/pub-larkspur/pub/bigall.divRecursiveThreshold", "given.example/pub-larkspur/pub/bigall.karatsubaThreshold", "given.example/pub-larkspur/pub/bigall.basicSqrThreshold", "given.example/pub-larkspur/pub/bigall.karatsubaSqrThreshold"], fn := fun _ => fun
  | [d1, d2, d3, g1, g2, g3, g4, g5] => { results := [.lit (.bool true)], args := [d1, d2, d3], vars := [g1, g2, g3, g4, g5] }
  | _ => none }
def fnCompareRow : OpenClaim := { program := "ytkplnbjgkhmbcaagreatdoor", sum := "93343390136d99fcd920b1baea060d65d506e6da3ddff25de38a6a0c051f66b0", func := "given.example/pub-larkspur/laws.FnCompare", spec := "fnCompare", inPlace := ["math.Float64frombits", "math.Float64bits", "math/bits.Add64", "math/bits.Sub64"], unfollowed := true, recurses := true, named := ["given.example/pub-larkspur/pub/starlark/starlark.CompareLimit", "given.example/pub-larkspur/pub/bigall.divRecursiveThreshold", "given.example/pub-larkspur/pub/bigall.karatsubaThreshold", "given.example/pub-larkspur/pub/bigall.basicSqrThreshold", "given.example/pub-larkspur/pub/bigall.karatsubaSqrThreshold"], loops := true, apart := false, laid := [("given.example/pub-larkspur/pub/bigall.divRecursiveThreshold", laid_given_example_pub_larkspur_pub_bigall_divRecursiveThreshold), ("given.example/pub-larkspur/pub/bigall.karatsubaThreshold", laid_given_example_pub_larkspur_pub_bigall_karatsubaThreshold), ("given.example/pub-larkspur/pub/bigall.basicSqrThreshold", laid_given_example_pub_larkspur_pub_bigall_basicSqrThreshold), ("given.example/pub-larkspur/pub/bigall.karatsubaSqrThreshold", laid_given_example_pub_larkspur_pub_bigall_karatsubaSqrThreshold), ("given.example/pub-larkspur/pub/starlark/starlark.CompareLimit", laid_given_example_pub_larkspur_pub_starlark_starlark_CompareLimit)] }
def FnCompareSaid : Prop := fnCompareRow.holds Tryz.pinned (OpenSpec.ofChange fnCompareSpec)

/-- ITS FALSE NEIGHBOUR: 'it returns false'. Refute it at one input. -/
def fnCompareWrong : ChangeSpec := { name := "fnCompare", vars := ["given.example/pub-larkspur/pub/starlark/starlark.CompareLimit", "given.example/pub-larkspur/pub/bigall.divRecursiveThreshold", "given.example/pub-larkspur/pub/bigall.karatsubaThreshold", "given.example/pub-larkspur/pub/bigall.basicSqrThreshold", "given.example/pub-larkspur/pub/bigall.karatsubaSqrThreshold"], fn := fun _ => fun
  | [d1, d2, d3, g1, g2, g3, g4, g5] => { results := [.lit (.bool false)], args := [d1, d2, d3], vars := [g1, g2, g3, g4, g5] }
  | _ => none }
def FnCompareWrongFalsely : Prop := fnCompareRow.holds Tryz.pinned (OpenSpec.ofChange fnCompareWrong)

/-- 'laws.FnSlice': WHATEVER THE INPUT: true; the input reads as it did. -/
def fnSliceSpec : ChangeSpec := { name := "fnSlice", vars := ["given.example/pub-larkspur/pub/starlark/starlark.CompareLimit", "given.example/pub-larkspur/pub/bigall.divRecursiveThreshold", "given.example/pub-larkspur/pub/bigall.karatsubaThreshold", "given.example/pub-larkspur/pub/bigall.basicSqrThreshold", "given.example/pub-larkspur/pub/bigall.karatsubaSqrThreshold"], fn := fun _ => fun
  | [d1, d2, d3, d4, g1, g2, g3, g4, g5] => { results := [.lit (.bool true)], args := [d1, d2, d3, d4], vars := [g1, g2, g3, g4, g5] }
  | _ => none }
def fnSliceRow : OpenClaim := { program := "ytkplnbjgkhmbcaagreatdoor", sum := "93343390136d99fcd920b1baea060d65d506e6da3ddff25de38a6a0c051f66b0", func := "given.example/pub-larkspur/laws.FnSlice", spec := "fnSlice", inPlace := ["math.Float64frombits", "math.Float64bits", "math/bits.Add64", "math/bits.Sub64"], unfollowed := true, recurses := true, named := ["given.example/pub-larkspur/pub/starlark/starlark.CompareLimit", "given.example/pub-larkspur/pub/bigall.divRecursiveThreshold", "given.example/pub-larkspur/pub/bigall.karatsubaThreshold", "given.example/pub-larkspur/pub/bigall.basicSqrThreshold", "given.example/pub-larkspur/pub/bigall.karatsubaSqrThreshold"], loops := true, apart := false, laid := [("given.example/pub-larkspur/pub/bigall.divRecursiveThreshold", laid_given_example_pub_larkspur_pub_bigall_divRecursiveThreshold), ("given.example/pub-larkspur/pub/bigall.karatsubaThreshold", laid_given_example_pub_larkspur_pub_bigall_karatsubaThreshold), ("given.example/pub-larkspur/pub/bigall.basicSqrThreshold", laid_given_example_pub_larkspur_pub_bigall_basicSqrThreshold), ("given.example/pub-larkspur/pub/bigall.karatsubaSqrThreshold", laid_given_example_pub_larkspur_pub_bigall_karatsubaSqrThreshold), ("given.example/pub-larkspur/pub/starlark/starlark.CompareLimit", laid_given_example_pub_larkspur_pub_starlark_starlark_CompareLimit)] }
def FnSliceSaid : Prop := fnSliceRow.holds Tryz.pinned (OpenSpec.ofChange fnSliceSpec)

/-- ITS FALSE NEIGHBOUR: 'it returns false'. Refute it at one input. -/
def fnSliceWrong : ChangeSpec := { name := "fnSlice", vars := ["given.example/pub-larkspur/pub/starlark/starlark.CompareLimit", "given.example/pub-larkspur/pub/bigall.divRecursiveThreshold", "given.example/pub-larkspur/pub/bigall.karatsubaThreshold", "given.example/pub-larkspur/pub/bigall.basicSqrThreshold", "given.example/pub-larkspur/pub/bigall.karatsubaSqrThreshold"], fn := fun _ => fun
  | [d1, d2, d3, d4, g1, g2, g3, g4, g5] => { results := [.lit (.bool false)], args := [d1, d2, d3, d4], vars := [g1, g2, g3, g4, g5] }
  | _ => none }
def FnSliceWrongFalsely : Prop := fnSliceRow.holds Tryz.pinned (OpenSpec.ofChange fnSliceWrong)

/-- 'laws.FnListRemove': WHATEVER THE INPUT: true; the input reads as it did. -/
def fnListRemoveSpec : ChangeSpec := { name := "fnListRemove", vars := ["given.example/pub-larkspur/pub/starlark/starlark.CompareLimit", "given.example/pub-larkspur/pub/bigall.divRecursiveThreshold", "given.example/pub-larkspur/pub/bigall.karatsubaThreshold", "given.example/pub-larkspur/pub/bigall.basicSqrThreshold", "given.example/pub-larkspur/pub/bigall.karatsubaSqrThreshold"], fn := fun _ => fun
  | [d1, d2, g1, g2, g3, g4, g5] => { results := [.lit (.bool true)], args := [d1, d2], vars := [g1, g2, g3, g4, g5] }
  | _ => none }
def fnListRemoveRow : OpenClaim := { program := "ytkplnbjgkhmbcaagreatdoor", sum := "93343390136d99fcd920b1baea060d65d506e6da3ddff25de38a6a0c051f66b0", func := "given.example/pub-larkspur/laws.FnListRemove", spec := "fnListRemove", inPlace := ["math.Float64frombits", "math.Float64bits", "math/bits.Add64", "math/bits.Sub64"], unfollowed := true, recurses := true, named := ["given.example/pub-larkspur/pub/starlark/starlark.CompareLimit", "given.example/pub-larkspur/pub/bigall.divRecursiveThreshold", "given.example/pub-larkspur/pub/bigall.karatsubaThreshold", "given.example/pub-larkspur/pub/bigall.basicSqrThreshold", "given.example/pub-larkspur/pub/bigall.karatsubaSqrThreshold"], loops := true, apart := false, laid := [("given.example/pub-larkspur/pub/bigall.divRecursiveThreshold", laid_given_example_pub_larkspur_pub_bigall_divRecursiveThreshold), ("given.example/pub-larkspur/pub/bigall.karatsubaThreshold", laid_given_example_pub_larkspur_pub_bigall_karatsubaThreshold), ("given.example/pub-larkspur/pub/bigall.basicSqrThreshold", laid_given_example_pub_larkspur_pub_bigall_basicSqrThreshold), ("given.example/pub-larkspur/pub/bigall.karatsubaSqrThreshold", laid_given_example_pub_larkspur_pub_bigall_karatsubaSqrThreshold), ("given.example/pub-larkspur/pub/starlark/starlark.CompareLimit", laid_given_example_pub_larkspur_pub_starlark_starlark_CompareLimit)] }
def FnListRemoveSaid : Prop := fnListRemoveRow.holds Tryz.pinned (OpenSpec.ofChange fnListRemoveSpec)

/-- ITS FALSE NEIGHBOUR: 'it returns false'. Refute it at one input. -/
def fnListRemoveWrong : ChangeSpec := { name := "fnListRemove", vars := ["given.example/pub-larkspur/pub/starlark/starlark.CompareLimit", "given.example/pub-larkspur/pub/bigall.divRecursiveThreshold", "given.example/pub-larkspur/pub/bigall.karatsubaThreshold", "given.example/pub-larkspur/pub/bigall.basicSqrThreshold", "given.example/pub-larkspur/pub/bigall.karatsubaSqrThreshold"], fn := fun _ => fun
  | [d1, d2, g1, g2, g3, g4, g5] => { results := [.lit (.bool false)], args := [d1, d2], vars := [g1, g2, g3, g4, g5] }
  | _ => none }
def FnListRemoveWrongFalsely : Prop := fnListRemoveRow.holds Tryz.pinned (OpenSpec.ofChange fnListRemoveWrong)

/- THE SECOND FORM. 'bulk': how many values and letters a reading holds, each counted each time it is reached (what is shared counts as often as it is met; a slice's spare places count too). A statement '..UptoSaid' is the law's where the arguments, and the package variables that the reading takes, are together of bulk at most 1048576: NARROWER than '..Said'. Prove '..Said' where nothing that the law and all that it calls make is longer than what came in: it says more and counts as full. Else prove '..UptoSaid'. A law counts once. -/
mutual
def uptoBulk {H : Type} : DataW H → Nat
  | .lit (.string bytes) => bytes.length + 1
  | .lit _ => 1
  | .nil => 1
  | .ptr d => uptoBulk d + 1
  | .slice elems spare => uptoBulkAll elems + uptoBulkAll spare + 1
  | .agg parts => uptoBulkAll parts + 1
  | .iface _ d => uptoBulk d + 1
  | .map entries => uptoBulkEntries entries + 1
  | .held _ => 1
def uptoBulkAll {H : Type} : List (DataW H) → Nat
  | [] => 0
  | d :: r => uptoBulk d + uptoBulkAll r
def uptoBulkEntries {H : Type} : List (Lit × DataW H) → Nat
  | [] => 0
  | x :: r => uptoBulkEntry x + uptoBulkEntries r
def uptoBulkEntry {H : Type} : Lit × DataW H → Nat
  | (.string bytes, d) => bytes.length + uptoBulk d + 1
  | (_, d) => uptoBulk d + 1
 end
def uptoSmall : (H : Type) → List (DataW H) → Bool := fun _ ds => decide (uptoBulkAll ds ≤ 1048576)
def OpenSpec.upto (s : _root_.Go.ChangeSpec) : _root_.Go.OpenSpec := { _root_.Go.OpenSpec.ofChange s with cond := some uptoSmall }

/-- 'laws.FnType', WHERE WHAT IT READS IS OF BULK AT MOST 1048576: true; the input reads as it did. -/
def fnTypeUptoRow : OpenClaim := { program := "ytkplnbjgkhmbcaagreatdoor", sum := "93343390136d99fcd920b1baea060d65d506e6da3ddff25de38a6a0c051f66b0", func := "given.example/pub-larkspur/laws.FnType", spec := "fnType", inPlace := ["math.Float64frombits", "math.Float64bits", "math/bits.Add64", "math/bits.Sub64"], unfollowed := true, recurses := true, named := ["given.example/pub-larkspur/pub/starlark/starlark.CompareLimit", "given.example/pub-larkspur/pub/bigall.divRecursiveThreshold", "given.example/pub-larkspur/pub/bigall.karatsubaThreshold", "given.example/pub-larkspur/pub/bigall.basicSqrThreshold", "given.example/pub-larkspur/pub/bigall.karatsubaSqrThreshold"], loops := true, apart := false, laid := [("given.example/pub-larkspur/pub/bigall.divRecursiveThreshold", laid_given_example_pub_larkspur_pub_bigall_divRecursiveThreshold), ("given.example/pub-larkspur/pub/bigall.karatsubaThreshold", laid_given_example_pub_larkspur_pub_bigall_karatsubaThreshold), ("given.example/pub-larkspur/pub/bigall.basicSqrThreshold", laid_given_example_pub_larkspur_pub_bigall_basicSqrThreshold), ("given.example/pub-larkspur/pub/bigall.karatsubaSqrThreshold", laid_given_example_pub_larkspur_pub_bigall_karatsubaSqrThreshold), ("given.example/pub-larkspur/pub/starlark/starlark.CompareLimit", laid_given_example_pub_larkspur_pub_starlark_starlark_CompareLimit)], narrowed := true }
def FnTypeUptoSaid : Prop := fnTypeUptoRow.holds Tryz.pinned (OpenSpec.upto fnTypeSpec)

/-- 'laws.FnCompareDepth', WHERE WHAT IT READS IS OF BULK AT MOST 1048576: true; the input reads as it did. -/
def fnCompareDepthUptoRow : OpenClaim := { program := "ytkplnbjgkhmbcaagreatdoor", sum := "93343390136d99fcd920b1baea060d65d506e6da3ddff25de38a6a0c051f66b0", func := "given.example/pub-larkspur/laws.FnCompareDepth", spec := "fnCompareDepth", inPlace := ["math.Float64frombits", "math.Float64bits", "math/bits.Add64", "math/bits.Sub64"], unfollowed := true, recurses := true, named := ["given.example/pub-larkspur/pub/starlark/starlark.CompareLimit", "given.example/pub-larkspur/pub/bigall.divRecursiveThreshold", "given.example/pub-larkspur/pub/bigall.karatsubaThreshold", "given.example/pub-larkspur/pub/bigall.basicSqrThreshold", "given.example/pub-larkspur/pub/bigall.karatsubaSqrThreshold"], loops := true, apart := false, laid := [("given.example/pub-larkspur/pub/bigall.divRecursiveThreshold", laid_given_example_pub_larkspur_pub_bigall_divRecursiveThreshold), ("given.example/pub-larkspur/pub/bigall.karatsubaThreshold", laid_given_example_pub_larkspur_pub_bigall_karatsubaThreshold), ("given.example/pub-larkspur/pub/bigall.basicSqrThreshold", laid_given_example_pub_larkspur_pub_bigall_basicSqrThreshold), ("given.example/pub-larkspur/pub/bigall.karatsubaSqrThreshold", laid_given_example_pub_larkspur_pub_bigall_karatsubaSqrThreshold), ("given.example/pub-larkspur/pub/starlark/starlark.CompareLimit", laid_given_example_pub_larkspur_pub_starlark_starlark_CompareLimit)], narrowed := true }
def FnCompareDepthUptoSaid : Prop := fnCompareDepthUptoRow.holds Tryz.pinned (OpenSpec.upto fnCompareDepthSpec)

/-- 'laws.FnCompare', WHERE WHAT IT READS IS OF BULK AT MOST 1048576: true; the input reads as it did. -/
def fnCompareUptoRow : OpenClaim := { program := "ytkplnbjgkhmbcaagreatdoor", sum := "93343390136d99fcd920b1baea060d65d506e6da3ddff25de38a6a0c051f66b0", func := "given.example/pub-larkspur/laws.FnCompare", spec := "fnCompare", inPlace := ["math.Float64frombits", "math.Float64bits", "math/bits.Add64", "math/bits.Sub64"], unfollowed := true, recurses := true, named := ["given.example/pub-larkspur/pub/starlark/starlark.CompareLimit", "given.example/pub-larkspur/pub/bigall.divRecursiveThreshold", "given.example/pub-larkspur/pub/bigall.karatsubaThreshold", "given.example/pub-larkspur/pub/bigall.basicSqrThreshold", "given.example/pub-larkspur/pub/bigall.karatsubaSqrThreshold"], loops := true, apart := false, laid := [("given.example/pub-larkspur/pub/bigall.divRecursiveThreshold", laid_given_example_pub_larkspur_pub_bigall_divRecursiveThreshold), ("given.example/pub-larkspur/pub/bigall.karatsubaThreshold", laid_given_example_pub_larkspur_pub_bigall_karatsubaThreshold), ("given.example/pub-larkspur/pub/bigall.basicSqrThreshold", laid_given_example_pub_larkspur_pub_bigall_basicSqrThreshold), ("given.example/pub-larkspur/pub/bigall.karatsubaSqrThreshold", laid_given_example_pub_larkspur_pub_bigall_karatsubaSqrThreshold), ("given.example/pub-larkspur/pub/starlark/starlark.CompareLimit", laid_given_example_pub_larkspur_pub_starlark_starlark_CompareLimit)], narrowed := true }
def FnCompareUptoSaid : Prop := fnCompareUptoRow.holds Tryz.pinned (OpenSpec.upto fnCompareSpec)

/-- 'laws.FnSlice', WHERE WHAT IT READS IS OF BULK AT MOST 1048576: true; the input reads as it did. -/
def fnSliceUptoRow : OpenClaim := { program := "ytkplnbjgkhmbcaagreatdoor", sum := "93343390136d99fcd920b1baea060d65d506e6da3ddff25de38a6a0c051f66b0", func := "given.example/pub-larkspur/laws.FnSlice", spec := "fnSlice", inPlace := ["math.Float64frombits", "math.Float64bits", "math/bits.Add64", "math/bits.Sub64"], unfollowed := true, recurses := true, named := ["given.example/pub-larkspur/pub/starlark/starlark.CompareLimit", "given.example/pub-larkspur/pub/bigall.divRecursiveThreshold", "given.example/pub-larkspur/pub/bigall.karatsubaThreshold", "given.example/pub-larkspur/pub/bigall.basicSqrThreshold", "given.example/pub-larkspur/pub/bigall.karatsubaSqrThreshold"], loops := true, apart := false, laid := [("given.example/pub-larkspur/pub/bigall.divRecursiveThreshold", laid_given_example_pub_larkspur_pub_bigall_divRecursiveThreshold), ("given.example/pub-larkspur/pub/bigall.karatsubaThreshold", laid_given_example_pub_larkspur_pub_bigall_karatsubaThreshold), ("given.example/pub-larkspur/pub/bigall.basicSqrThreshold", laid_given_example_pub_larkspur_pub_bigall_basicSqrThreshold), ("given.example/pub-larkspur/pub/bigall.karatsubaSqrThreshold", laid_given_example_pub_larkspur_pub_bigall_karatsubaSqrThreshold), ("given.example/pub-larkspur/pub/starlark/starlark.CompareLimit", laid_given_example_pub_larkspur_pub_starlark_starlark_CompareLimit)], narrowed := true }
def FnSliceUptoSaid : Prop := fnSliceUptoRow.holds Tryz.pinned (OpenSpec.upto fnSliceSpec)

/-- 'laws.FnListRemove', WHERE WHAT IT READS IS OF BULK AT MOST 1048576: true; the input reads as it did. -/
def fnListRemoveUptoRow : OpenClaim := { program := "ytkplnbjgkhmbcaagreatdoor", sum := "93343390136d99fcd920b1baea060d65d506e6da3ddff25de38a6a0c051f66b0", func := "given.example/pub-larkspur/laws.FnListRemove", spec := "fnListRemove", inPlace := ["math.Float64frombits", "math.Float64bits", "math/bits.Add64", "math/bits.Sub64"], unfollowed := true, recurses := true, named := ["given.example/pub-larkspur/pub/starlark/starlark.CompareLimit", "given.example/pub-larkspur/pub/bigall.divRecursiveThreshold", "given.example/pub-larkspur/pub/bigall.karatsubaThreshold", "given.example/pub-larkspur/pub/bigall.basicSqrThreshold", "given.example/pub-larkspur/pub/bigall.karatsubaSqrThreshold"], loops := true, apart := false, laid := [("given.example/pub-larkspur/pub/bigall.divRecursiveThreshold", laid_given_example_pub_larkspur_pub_bigall_divRecursiveThreshold), ("given.example/pub-larkspur/pub/bigall.karatsubaThreshold", laid_given_example_pub_larkspur_pub_bigall_karatsubaThreshold), ("given.example/pub-larkspur/pub/bigall.basicSqrThreshold", laid_given_example_pub_larkspur_pub_bigall_basicSqrThreshold), ("given.example/pub-larkspur/pub/bigall.karatsubaSqrThreshold", laid_given_example_pub_larkspur_pub_bigall_karatsubaSqrThreshold), ("given.example/pub-larkspur/pub/starlark/starlark.CompareLimit", laid_given_example_pub_larkspur_pub_starlark_starlark_CompareLimit)], narrowed := true }
def FnListRemoveUptoSaid : Prop := fnListRemoveUptoRow.holds Tryz.pinned (OpenSpec.upto fnListRemoveSpec)

end Rows
end Go.Proofs.YtkplnbjgkhmbcaaGreatDoor
