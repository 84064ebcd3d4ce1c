/- starlark: sameType, CompareDepth on scalars. -/
import Derived.Test.YtkplnbjgkhmbcaaGreatDoorM25
namespace Go.Proofs.YtkplnbjgkhmbcaaGreatDoor
open Go.RowKit Go.Shelf Go.Proofs.YtkplnbjgkhmbcaaGreatDoorW.PrintWords Go.Proofs.YtkplnbjgkhmbcaaGreatDoorW.PrintLast Go.Proofs.YtkplnbjgkhmbcaaGreatDoorW.PrintMore
set_option linter.unusedVariables false
set_option linter.unusedSimpArgs false

/-- The scalars, as the program holds them. -/
inductive Sca where
  | none | bool (b : Bool) | int (x : Int) | float (b : Nat) | str (s : ByteArray) | bytes (s : ByteArray)
def ScaV (B : Nat) (w : World) (v : Value) : Sca → Prop
  | .none => v = .iface 137 (.int .u8 0)
  | .bool b => v = .iface 138 (.bool b)
  | .int x => ∃ u, v = .iface 122 u ∧ SIv B w u x
  | .float b => v = .iface 123 (.float .f64 b)
  | .str s => v = .iface 141 (.string s)
  | .bytes s => v = .iface 142 (.string s)
def Sca.kind : Sca → Nat
  | .none => 0 | .bool _ => 1 | .int _ => 2 | .float _ => 3 | .str _ => 4 | .bytes _ => 5
def Sca.name : Sca → ByteArray
  | .none => ⟨#[78, 111, 110, 101, 84, 121, 112, 101]⟩ | .bool _ => ⟨#[98, 111, 111, 108]⟩ | .int _ => ⟨#[105, 110, 116]⟩ | .float _ => ⟨#[102, 108, 111, 97, 116]⟩ | .str _ => ⟨#[115, 116, 114, 105, 110, 103]⟩ | .bytes _ => ⟨#[98, 121, 116, 101, 115]⟩
theorem ScaV.below {B : Nat} {w w' : World} {v : Value} {s : Sca} (h : ScaV B w v s) (hb : Below w.heap.size w w') : ScaV B w' v s := by
  cases s <;> first | exact h | (obtain ⟨u, rfl, h⟩ := h; exact ⟨u, rfl, h.below hb⟩)

theorem methTypeNoneType (v : Value) (w : World) : (method 560 137 v "Type").run Tryz.prog w = .ok (347, v) w := by kernel_rfl
theorem methTypeBool (v : Value) (w : World) : (method 560 138 v "Type").run Tryz.prog w = .ok (353, v) w := by kernel_rfl
theorem methTypeInt (v : Value) (w : World) : (method 560 122 v "Type").run Tryz.prog w = .ok (326, v) w := by kernel_rfl
theorem methTypeFloat (v : Value) (w : World) : (method 560 123 v "Type").run Tryz.prog w = .ok (334, v) w := by kernel_rfl
theorem methTypeString (v : Value) (w : World) : (method 560 141 v "Type").run Tryz.prog w = .ok (363, v) w := by kernel_rfl
theorem methTypeBytes (v : Value) (w : World) : (method 560 142 v "Type").run Tryz.prog w = .ok (377, v) w := by kernel_rfl
theorem typeNoneType_c (v : Value) (w : World) : Calls Tryz.prog 347 #[v] w fun e w' => e = .returned (.string (Sca.none).name) ∧ Below w.heap.size w w' := by
  go_enter Tryz.func347, Tryz.ntmps347
  go_wp2
  go_ret
  exact ⟨rfl, Below.refl _ w⟩
theorem typeBool_c (v : Value) (w : World) : Calls Tryz.prog 353 #[v] w fun e w' => e = .returned (.string ((Sca.bool true)).name) ∧ Below w.heap.size w w' := by
  go_enter Tryz.func353, Tryz.ntmps353
  go_wp2
  go_ret
  exact ⟨rfl, Below.refl _ w⟩
theorem typeInt_c (y : Int) (p : Option Addr) (w : World) : Calls Tryz.prog 326 #[(.agg #[.int .i64 y, .pointer p])] w fun e w' => e = .returned (.string ((Sca.int 0)).name) ∧ Below w.heap.size w w' := by
  go_enter Tryz.func326, Tryz.ntmps326
  go_wp2
  go_ret
  exact ⟨rfl, (Below.refl _ w).alloc (Nat.le_refl _) _⟩
theorem typeFloat_c (v : Value) (w : World) : Calls Tryz.prog 334 #[v] w fun e w' => e = .returned (.string ((Sca.float 0)).name) ∧ Below w.heap.size w w' := by
  go_enter Tryz.func334, Tryz.ntmps334
  go_wp2
  go_ret
  exact ⟨rfl, Below.refl _ w⟩
theorem typeString_c (v : Value) (w : World) : Calls Tryz.prog 363 #[v] w fun e w' => e = .returned (.string ((Sca.str ⟨#[]⟩)).name) ∧ Below w.heap.size w w' := by
  go_enter Tryz.func363, Tryz.ntmps363
  go_wp2
  go_ret
  exact ⟨rfl, Below.refl _ w⟩
theorem typeBytes_c (v : Value) (w : World) : Calls Tryz.prog 377 #[v] w fun e w' => e = .returned (.string ((Sca.bytes ⟨#[]⟩)).name) ∧ Below w.heap.size w w' := by
  go_enter Tryz.func377, Tryz.ntmps377
  go_wp2
  go_ret
  exact ⟨rfl, Below.refl _ w⟩

def kname : Nat → ByteArray
  | 0 => Sca.none.name | 1 => (Sca.bool true).name | 2 => (Sca.int 0).name | 3 => (Sca.float 0).name | 4 => (Sca.str ⟨#[]⟩).name | _ => (Sca.bytes ⟨#[]⟩).name
theorem name_kind (s : Sca) : s.name = kname s.kind ∧ s.kind < 6 := by cases s <;> exact ⟨rfl, by show _ < 6; simp [Sca.kind]⟩
theorem kname_eq : ∀ i : Fin 6, ∀ j : Fin 6, ((kname i.1).toList == (kname j.1).toList) = (i.1 == j.1) := by decide +kernel
theorem name_eq (s t : Sca) : (s.name.toList == t.name.toList) = (s.kind == t.kind) := by
  rw [(name_kind s).1, (name_kind t).1]
  exact kname_eq ⟨s.kind, (name_kind s).2⟩ ⟨t.kind, (name_kind t).2⟩
/-- The method Type of a value. -/
structure TypeAt (T : TypeId) (x : Value) (n : ByteArray) (K : FuncId) : Prop where
  m : ∀ w, (method 560 T x "Type").run Tryz.prog w = .ok (K, x) w
  e : ∀ args w, (callFunc K args).run Tryz.prog w = .ok (.enter K args) w
  c : ∀ w, Calls Tryz.prog K #[x] w fun e w' => e = .returned (.string n) ∧ Below w.heap.size w w'
theorem typeAt {B : Nat} {w : World} {v : Value} {s : Sca} (h : ScaV B w v s) : ∃ T x K, v = .iface T x ∧ TypeAt T x s.name K := by
  cases s
  · cases h
    exact ⟨_, _, 347, rfl, ⟨methTypeNoneType _, enters_of Tryz.func347 (by kernel_rfl) rfl, typeNoneType_c _⟩⟩
  · cases h
    exact ⟨_, _, 353, rfl, ⟨methTypeBool _, enters_of Tryz.func353 (by kernel_rfl) rfl, typeBool_c _⟩⟩
  · obtain ⟨u, rfl, h⟩ := h; obtain ⟨y, p, rfl⟩ := h.shape
    exact ⟨_, _, 326, rfl, ⟨methTypeInt _, enters_of Tryz.func326 (by kernel_rfl) rfl, typeInt_c y p⟩⟩
  · cases h
    exact ⟨_, _, 334, rfl, ⟨methTypeFloat _, enters_of Tryz.func334 (by kernel_rfl) rfl, typeFloat_c _⟩⟩
  · cases h
    exact ⟨_, _, 363, rfl, ⟨methTypeString _, enters_of Tryz.func363 (by kernel_rfl) rfl, typeString_c _⟩⟩
  · cases h
    exact ⟨_, _, 377, rfl, ⟨methTypeBytes _, enters_of Tryz.func377 (by kernel_rfl) rfl, typeBytes_c _⟩⟩

set_option maxRecDepth 100000 in
theorem sameTypeG_c (T1 T2 : TypeId) (K1 K2 : FuncId) (x1 x2 : Value) (n1 n2 : ByteArray) (w : World) (h1 : TypeAt T1 x1 n1 K1) (h2 : TypeAt T2 x2 n2 K2) : Calls Tryz.prog 60 #[.iface T1 x1, .iface T2 x2] w fun e w' => e = .returned (.bool (n1.toList == n2.toList)) ∧ Below w.heap.size w w' := by
  obtain ⟨m1, e1, c1⟩ := h1
  obtain ⟨m2, e2, c2⟩ := h2
  have HC1 := Lib.hid c1
  have HC2 := Lib.hid c2
  clear c1 c2
  go_enter Tryz.func60, Tryz.ntmps60
  go_wp2_with (first
    | (go_at_fn K1; (with_reducible refine (HC1.out _).mono ?_); rintro e w1 ⟨rfl, hb1⟩; have HB := Lib.hid hb1; clear hb1)
    | (go_at_fn K2; (with_reducible refine (HC2.out _).mono ?_); rintro e w2 ⟨rfl, hb2⟩; replace HB := Lib.hid (HB.out.trans (hb2.mono HB.out.size)); clear hb2))
  go_ret
  exact ⟨rfl, HB.out⟩
/-- starlark.sameType of two scalars: are they of one kind? -/
theorem sameType_c (B1 B2 : Nat) (v1 v2 : Value) (s t : Sca) (w : World) (h1 : ScaV B1 w v1 s) (h2 : ScaV B2 w v2 t) : Calls Tryz.prog 60 #[v1, v2] w fun e w' => e = .returned (.bool (s.kind == t.kind)) ∧ Below w.heap.size w w' := by
  obtain ⟨T1, x1, K1, rfl, g1⟩ := typeAt h1
  obtain ⟨T2, x2, K2, rfl, g2⟩ := typeAt h2
  rw [← name_eq]
  exact sameTypeG_c T1 T2 K1 K2 x1 x2 _ _ w g1 g2
end Go.Proofs.YtkplnbjgkhmbcaaGreatDoor
