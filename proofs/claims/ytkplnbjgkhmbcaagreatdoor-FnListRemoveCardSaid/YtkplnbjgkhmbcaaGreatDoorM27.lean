/- starlark: CompareDepth on scalars of one kind. -/
import Derived.Test.YtkplnbjgkhmbcaaGreatDoorM26
import Derived.Stop.Asserts
namespace Go.Proofs.YtkplnbjgkhmbcaaGreatDoor
open Go.RowKit Go.Shelf Go.Proofs.YtkplnbjgkhmbcaaGreatDoorW.PrintWords Go.Proofs.YtkplnbjgkhmbcaaGreatDoorW.PrintLast Go.Proofs.YtkplnbjgkhmbcaaGreatDoorW.PrintMore
set_option linter.unusedVariables false
set_option linter.unusedSimpArgs false

theorem as109NoneType (v : Value) (w : World) : (Instr.typeAssert (.iface 137 v) 57 109 true).run Tryz.prog w = .ok (.tuple #[.nilIface, .bool false]) w := run_typeAssert_lacksB Tryz.underlying109 (by kernel_rfl) (by kernel_rfl) v _ w
theorem as113NoneType (v : Value) (w : World) : (Instr.typeAssert (.iface 137 v) 57 113 true).run Tryz.prog w = .ok (.tuple #[.nilIface, .bool false]) w := run_typeAssert_lacksB Tryz.underlying113 (by kernel_rfl) (by kernel_rfl) v _ w
theorem as109Bool (v : Value) (w : World) : (Instr.typeAssert (.iface 138 v) 57 109 true).run Tryz.prog w = .ok (.tuple #[.iface 138 v, .bool true]) w := run_typeAssert_hasB Tryz.underlying109 (by kernel_rfl) v _ w
theorem methCmpBool (v : Value) (w : World) : (method 560 138 v "CompareSameType").run Tryz.prog w = .ok (348, v) w := by kernel_rfl
theorem as109Int (v : Value) (w : World) : (Instr.typeAssert (.iface 122 v) 57 109 true).run Tryz.prog w = .ok (.tuple #[.nilIface, .bool false]) w := run_typeAssert_lacksB Tryz.underlying109 (by kernel_rfl) (by kernel_rfl) v _ w
theorem as113Int (v : Value) (w : World) : (Instr.typeAssert (.iface 122 v) 57 113 true).run Tryz.prog w = .ok (.tuple #[.iface 122 v, .bool true]) w := run_typeAssert_hasB Tryz.underlying113 (by kernel_rfl) v _ w
theorem methCmpInt (v : Value) (w : World) : (method 560 122 v "Cmp").run Tryz.prog w = .ok (321, v) w := by kernel_rfl
theorem as109Float (v : Value) (w : World) : (Instr.typeAssert (.iface 123 v) 57 109 true).run Tryz.prog w = .ok (.tuple #[.nilIface, .bool false]) w := run_typeAssert_lacksB Tryz.underlying109 (by kernel_rfl) (by kernel_rfl) v _ w
theorem as113Float (v : Value) (w : World) : (Instr.typeAssert (.iface 123 v) 57 113 true).run Tryz.prog w = .ok (.tuple #[.iface 123 v, .bool true]) w := run_typeAssert_hasB Tryz.underlying113 (by kernel_rfl) v _ w
theorem methCmpFloat (v : Value) (w : World) : (method 560 123 v "Cmp").run Tryz.prog w = .ok (329, v) w := by kernel_rfl
theorem as109String (v : Value) (w : World) : (Instr.typeAssert (.iface 141 v) 57 109 true).run Tryz.prog w = .ok (.tuple #[.iface 141 v, .bool true]) w := run_typeAssert_hasB Tryz.underlying109 (by kernel_rfl) v _ w
theorem methCmpString (v : Value) (w : World) : (method 560 141 v "CompareSameType").run Tryz.prog w = .ok (355, v) w := by kernel_rfl
theorem as109Bytes (v : Value) (w : World) : (Instr.typeAssert (.iface 142 v) 57 109 true).run Tryz.prog w = .ok (.tuple #[.iface 142 v, .bool true]) w := run_typeAssert_hasB Tryz.underlying109 (by kernel_rfl) v _ w
theorem methCmpBytes (v : Value) (w : World) : (method 560 142 v "CompareSameType").run Tryz.prog w = .ok (369, v) w := by kernel_rfl

set_option maxRecDepth 100000 in
theorem cdBool_c (op : Int) (a b : Bool) (d : Int) (w : World) (ho : OpOk op) (hd : ¬ d < 1) (hd2 : d ≤ 1000) : Calls Tryz.prog 29 #[.int .i8 op, .iface 138 (.bool a), .iface 138 (.bool b), .int .i64 d] w fun e w' => e = .returned (.tuple #[.bool (tw op ((if a then 1 else 0) - (if b then 1 else 0))), .nilIface]) ∧ Below w.heap.size w w' := by
  have h109 := as109Bool
  have hm := methCmpBool
  have HS : Hid (Calls Tryz.prog 60 #[_, _] w fun e w' => e = .returned (.bool true) ∧ Below w.heap.size w w') := Lib.hid (sameType_c 0 0 _ _ (Sca.bool a) (Sca.bool b) w rfl rfl)
  have HC := Lib.hid (fun d w => boolSame_c op a b d w ho)
  clear ho
  go_enter Tryz.func29, Tryz.ntmps29
  go_wp2_with (first
    | (go_at_call 60; (with_reducible refine HS.out.mono ?_); rintro e w1 ⟨rfl, hb1⟩; have HB := Lib.hid hb1; clear hb1)
    | (go_at_call 348; (with_reducible refine (HC.out _ _).mono ?_); rintro e w2 ⟨rfl, rfl⟩))
  all_goals go_ret2
  all_goals exact ⟨rfl, HB.out⟩

set_option maxRecDepth 100000 in
theorem cdString_c (op : Int) (a b : ByteArray) (d : Int) (w : World) (ho : OpOk op) (hd : ¬ d < 1) (hd2 : d ≤ 1000) : Calls Tryz.prog 29 #[.int .i8 op, .iface 141 (.string a), .iface 141 (.string b), .int .i64 d] w fun e w' => e = .returned (.tuple #[.bool (tw op (Lib.compareBytes a.data.toList b.data.toList)), .nilIface]) ∧ Below w.heap.size w w' := by
  have h109 := as109String
  have hm := methCmpString
  have HS : Hid (Calls Tryz.prog 60 #[_, _] w fun e w' => e = .returned (.bool true) ∧ Below w.heap.size w w') := Lib.hid (sameType_c 0 0 _ _ (Sca.str a) (Sca.str b) w rfl rfl)
  have HC := Lib.hid (fun d w => stringSame_c op a b d w ho)
  clear ho
  go_enter Tryz.func29, Tryz.ntmps29
  go_wp2_with (first
    | (go_at_call 60; (with_reducible refine HS.out.mono ?_); rintro e w1 ⟨rfl, hb1⟩; have HB := Lib.hid hb1; clear hb1)
    | (go_at_call 355; (with_reducible refine (HC.out _ _).mono ?_); rintro e w2 ⟨rfl, rfl⟩))
  all_goals go_ret2
  all_goals exact ⟨rfl, HB.out⟩

set_option maxRecDepth 100000 in
theorem cdBytes_c (op : Int) (a b : ByteArray) (d : Int) (w : World) (ho : OpOk op) (hd : ¬ d < 1) (hd2 : d ≤ 1000) : Calls Tryz.prog 29 #[.int .i8 op, .iface 142 (.string a), .iface 142 (.string b), .int .i64 d] w fun e w' => e = .returned (.tuple #[.bool (tw op (Lib.compareBytes a.data.toList b.data.toList)), .nilIface]) ∧ Below w.heap.size w w' := by
  have h109 := as109Bytes
  have hm := methCmpBytes
  have HS : Hid (Calls Tryz.prog 60 #[_, _] w fun e w' => e = .returned (.bool true) ∧ Below w.heap.size w w') := Lib.hid (sameType_c 0 0 _ _ (Sca.bytes a) (Sca.bytes b) w rfl rfl)
  have HC := Lib.hid (fun d w => bytesSame_c op a b d w ho)
  clear ho
  go_enter Tryz.func29, Tryz.ntmps29
  go_wp2_with (first
    | (go_at_call 60; (with_reducible refine HS.out.mono ?_); rintro e w1 ⟨rfl, hb1⟩; have HB := Lib.hid hb1; clear hb1)
    | (go_at_call 369; (with_reducible refine (HC.out _ _).mono ?_); rintro e w2 ⟨rfl, rfl⟩))
  all_goals go_ret2
  all_goals exact ⟨rfl, HB.out⟩

theorem fcmp_vals (a b : Nat) : fcmpF a b = -1 ∨ fcmpF a b = 0 ∨ fcmpF a b = 1 := by
  unfold fcmpF
  generalize f64ord a b = o
  generalize (fdat a).isNaN = p
  generalize (fdat b).isNaN = q
  rcases o with _ | o
  · cases p <;> cases q <;> simp [fcmpO]
  · cases o <;> simp [fcmpO]
set_option maxRecDepth 100000 in
theorem cdFloat_c (op : Int) (a b : Nat) (d : Int) (w : World) (ho : OpOk op) (hd : ¬ d < 1) (hd2 : d ≤ 1000) : Calls Tryz.prog 29 #[.int .i8 op, .iface 123 (.float .f64 a), .iface 123 (.float .f64 b), .int .i64 d] w fun e w' => e = .returned (.tuple #[.bool (tw op (fcmpF a b)), .nilIface]) ∧ Below w.heap.size w w' := by
  have h109 := as109Float
  have h113 := as113Float
  have hm := methCmpFloat
  have HS : Hid (Calls Tryz.prog 60 #[_, _] w fun e w' => e = .returned (.bool true) ∧ Below w.heap.size w w') := Lib.hid (sameType_c 0 0 _ _ (Sca.float a) (Sca.float b) w rfl rfl)
  have HT := Lib.hid (fun w => threeway_c op (fcmpF a b) w ho (fcmp_vals a b))
  clear ho
  go_enter Tryz.func29, Tryz.ntmps29
  go_wp2_with (first
    | (go_at_call 60; (with_reducible refine HS.out.mono ?_); rintro e w1 ⟨rfl, hb1⟩; have HB := Lib.hid hb1; clear hb1)
    | (go_at_call 329; (with_reducible refine (floatCmpM_c _ _ _ _).mono ?_); rintro e w2 ⟨rfl, rfl⟩)
    | (go_at_call 61; (with_reducible refine (HT.out _).mono ?_); rintro e w2 ⟨rfl, rfl⟩))
  go_ret2
  exact ⟨rfl, HB.out⟩
set_option maxRecDepth 100000 in
theorem cdInt_c (B1 B2 : Nat) (u1 u2 : Value) (x y : Int) (op d : Int) (w : World) (ho : OpOk op) (hd : ¬ d < 1) (hd2 : d ≤ 1000) (h1 : SIv B1 w u1 x) (h2 : SIv B2 w u2 y) (hx : x.natAbs < 256 ^ 60) (hy : y.natAbs < 256 ^ 60)
    (hne : ∀ g1 g2, u1 = .agg #[.int .i64 0, .pointer (some ⟨g1, 0, none⟩)] → u2 = .agg #[.int .i64 0, .pointer (some ⟨g2, 0, none⟩)] → g1 ≠ g2) : Calls Tryz.prog 29 #[.int .i8 op, .iface 122 u1, .iface 122 u2, .int .i64 d] w fun e w' => e = .returned (.tuple #[.bool (tw op (sgn (x - y))), .nilIface]) ∧ Below w.heap.size w w' := by
  have h109 := as109Int
  have h113 := as113Int
  have hm := methCmpInt
  have HS : Hid (Calls Tryz.prog 60 #[_, _] w fun e w' => e = .returned (.bool true) ∧ Below w.heap.size w w') := Lib.hid (sameType_c B1 B2 _ _ (Sca.int x) (Sca.int y) w ⟨_, rfl, h1⟩ ⟨_, rfl, h2⟩)
  have HT := Lib.hid (fun w => threeway_c op (sgn (x - y)) w ho (sgn_vals _))
  have HC := Lib.hid (fun w' d (hb : Below w.heap.size w w') => icmp_c B1 B2 u1 u2 x y d w' (h1.below hb) (h2.below hb) hx hy hne)
  clear ho h1 h2 hx hy hne
  go_enter Tryz.func29, Tryz.ntmps29
  go_wp2_with (first
    | (go_at_call 60; (with_reducible refine HS.out.mono ?_); rintro e w1 ⟨rfl, hb1⟩; have HB := Lib.hid hb1; clear hb1)
    | (go_at_call 321; (with_reducible refine (HC.out _ _ HB.out).mono ?_); rintro e w2 ⟨rfl, hb2⟩; replace HB := Lib.hid (HB.out.trans (hb2.mono HB.out.size)); clear hb2)
    | (go_at_call 61; (with_reducible refine (HT.out _).mono ?_); rintro e w2 ⟨rfl, rfl⟩))
  go_ret2
  exact ⟨rfl, HB.out⟩
theorem eqlNone (w : World) : (binOp .eql 57 (.iface 137 (.int .u8 0)) (.iface 137 (.int .u8 0))).run Tryz.prog w = .ok (.bool true) w := by kernel_rfl
set_option maxRecDepth 100000 in
theorem cdNone_c (d : Int) (w : World) (hd : ¬ d < 1) (hd2 : d ≤ 1000) : Calls Tryz.prog 29 #[.int .i8 37, .iface 137 (.int .u8 0), .iface 137 (.int .u8 0), .int .i64 d] w fun e w' => e = .returned (.tuple #[.bool true, .nilIface]) ∧ Below w.heap.size w w' := by
  have h109 := as109NoneType
  have h113 := as113NoneType
  have hq := eqlNone
  have HS : Hid (Calls Tryz.prog 60 #[_, _] w fun e w' => e = .returned (.bool true) ∧ Below w.heap.size w w') := Lib.hid (sameType_c 0 0 _ _ Sca.none Sca.none w rfl rfl)
  go_enter Tryz.func29, Tryz.ntmps29
  go_wp2_with (go_at_call 60; (with_reducible refine HS.out.mono ?_); rintro e w1 ⟨rfl, hb1⟩; have HB := Lib.hid hb1; clear hb1)
  go_ret2
  exact ⟨rfl, HB.out⟩
end Go.Proofs.YtkplnbjgkhmbcaaGreatDoor
