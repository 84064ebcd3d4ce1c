/- starlark: CompareDepth of unlike scalars (EQL); EqualDepth; Equal. · starlark: what list.remove calls: NewBuiltin, BindReceiver, Receiver, Name, checkPositionalArgs, checkMutable, unpackArgNoEscape into a Value. · starlark: unpackPositionalArgsNoEscape of one argument into one Value. -/
import Derived.Test.YtkplnbjgkhmbcaaGreatDoorM29
import Derived.BigRegion
import Derived.LoopTactic
namespace Go.Proofs.YtkplnbjgkhmbcaaGreatDoor
open Go.RowKit Go.Shelf Go.Proofs.YtkplnbjgkhmbcaaGreatDoorW.PrintWords Go.Proofs.YtkplnbjgkhmbcaaGreatDoorW.PrintLast Go.Proofs.YtkplnbjgkhmbcaaGreatDoorW.PrintMore
set_option linter.unusedVariables false
set_option linter.unusedSimpArgs false

theorem run_eql_iface_strB {P : Program} (w : World) {t tx : TypeId} {ms : Array (String × TypeId)} (a b : ByteArray)
    (ht : P.underlying t = some (.interface ms)) (hc : (P.info? tx).map (·.comparable) = some true) (hx : P.underlying tx = some .string) :
    (binOp .eql t (.iface tx (.string a)) (.iface tx (.string b))).run P w = .ok (.bool (a == b)) w := by
  cases hi : P.info? tx with
  | none => simp [hi] at hc
  | some i =>
    have hcc : i.comparable = true := by simpa [hi] using hc
    have h : ∀ d : Nat, (Op.equalIn (d + 2) t (.iface tx (.string a)) (.iface tx (.string b))).run P w = .ok (a == b) w := fun d => by
      simp [Op.equalIn, run_underlying ht, run_underlying hx, typeInfo, hi, hcc]
    simp only [binOp]
    simp [Op.equal, Op.maxDepth, h 9998]
theorem eqlStr (a b : ByteArray) (w : World) : (binOp .eql 57 (.iface 141 (.string a)) (.iface 141 (.string b))).run Tryz.prog w = .ok (.bool (a == b)) w :=
  run_eql_iface_strB w a b Tryz.underlying57 (by kernel_rfl) Tryz.underlying141
theorem eqlStrO (T : TypeId) (a : ByteArray) (v : Value) (w : World) (h : 141 ≠ T) : (binOp .eql 57 (.iface 141 (.string a)) (.iface T v)).run Tryz.prog w = .ok (.bool false) w :=
  run_eql_iface_types _ _ _ _ Tryz.underlying57 h w
/-- No number. -/
structure NotNum (T : TypeId) (x : Value) : Prop where
  a : ∀ w, (Instr.typeAssert (.iface T x) 57 122 true).run Tryz.prog w = .ok (.tuple #[.agg #[.int .i64 0, .pointer none], .bool false]) w
  b : ∀ w, (Instr.typeAssert (.iface T x) 57 123 true).run Tryz.prog w = .ok (.tuple #[.float .f64 0, .bool false]) w
theorem nnNone (v : Value) : NotNum 137 v := ⟨fun w => by kernel_rfl, fun w => by kernel_rfl⟩
theorem nnBool (v : Value) : NotNum 138 v := ⟨fun w => by kernel_rfl, fun w => by kernel_rfl⟩
theorem nnString (v : Value) : NotNum 141 v := ⟨fun w => by kernel_rfl, fun w => by kernel_rfl⟩
theorem nnBytes (v : Value) : NotNum 142 v := ⟨fun w => by kernel_rfl, fun w => by kernel_rfl⟩

set_option maxRecDepth 100000 in
theorem cdOther_c (T1 T2 : TypeId) (x1 x2 : Value) (d : Int) (w : World) (hd : ¬ d < 1) (hd2 : d ≤ 1000) (h1 : NotNum T1 x1)
    (HS : Hid (Calls Tryz.prog 60 #[.iface T1 x1, .iface T2 x2] w fun e w' => e = .returned (.bool false) ∧ Below w.heap.size w w')) : Calls Tryz.prog 29 #[.int .i8 37, .iface T1 x1, .iface T2 x2, .int .i64 d] w fun e w' => e = .returned (.tuple #[.bool false, .nilIface]) ∧ Below w.heap.size w w' := by
  obtain ⟨ha1, ha2⟩ := h1
  go_enter Tryz.func29, Tryz.ntmps29
  go_wp2_with (go_at_call 60; (with_reducible refine HS.out.mono ?_); rintro e w1 ⟨rfl, hb1⟩; have HB := Lib.hid hb1; clear hb1)
  go_ret2
  exact ⟨rfl, HB.out⟩
set_option maxRecDepth 100000 in
theorem cdIntO_c (T2 : TypeId) (y : Int) (p : Option Addr) (x2 : Value) (d : Int) (w : World) (hd : ¬ d < 1) (hd2 : d ≤ 1000) (h1 : NotNum T2 x2)
    (HS : Hid (Calls Tryz.prog 60 #[.iface 122 (.agg #[.int .i64 y, .pointer p]), .iface T2 x2] w fun e w' => e = .returned (.bool false) ∧ Below w.heap.size w w')) : Calls Tryz.prog 29 #[.int .i8 37, .iface 122 (.agg #[.int .i64 y, .pointer p]), .iface T2 x2, .int .i64 d] w fun e w' => e = .returned (.tuple #[.bool false, .nilIface]) ∧ Below w.heap.size w w' := by
  obtain ⟨ha1, ha2⟩ := h1
  have ha3 := as122Int
  go_enter Tryz.func29, Tryz.ntmps29
  go_wp2_with (go_at_call 60; (with_reducible refine HS.out.mono ?_); rintro e w1 ⟨rfl, hb1⟩; have HB := Lib.hid hb1; clear hb1)
  go_ret2
  exact ⟨rfl, HB.out.alloc HB.out.size _⟩
set_option maxRecDepth 100000 in
theorem cdFloatO_c (T2 : TypeId) (b : Nat) (x2 : Value) (d : Int) (w : World) (hd : ¬ d < 1) (hd2 : d ≤ 1000) (h1 : NotNum T2 x2)
    (HS : Hid (Calls Tryz.prog 60 #[.iface 123 (.float .f64 b), .iface T2 x2] w fun e w' => e = .returned (.bool false) ∧ Below w.heap.size w w')) : Calls Tryz.prog 29 #[.int .i8 37, .iface 123 (.float .f64 b), .iface T2 x2, .int .i64 d] w fun e w' => e = .returned (.tuple #[.bool false, .nilIface]) ∧ Below w.heap.size w w' := by
  obtain ⟨ha1, ha2⟩ := h1
  have ha3 := as122Float
  have ha4 := as123Float
  go_enter Tryz.func29, Tryz.ntmps29
  go_wp2_with (go_at_call 60; (with_reducible refine HS.out.mono ?_); rintro e w1 ⟨rfl, hb1⟩; have HB := Lib.hid hb1; clear hb1)
  go_ret2
  exact ⟨rfl, HB.out.alloc HB.out.size _⟩

/-- Equality of scalars. -/
def eqS : Sca → Sca → Bool
  | .none, .none => true
  | .bool a, .bool b => a == b
  | .int x, .int y => sgn (x - y) == 0
  | .float a, .float b => fcmpF a b == 0
  | .int x, .float b => icmpF x b == 0
  | .float a, .int y => (- icmpF y a) == 0
  | .str a, .str b => a == b
  | .bytes a, .bytes b => Lib.compareBytes a.data.toList b.data.toList == 0
  | _, _ => false
/-- What a scalar may be. -/
def Sca.fit : Sca → Prop
  | .int x => x.natAbs < 256 ^ 60
  | .float b => b < 18446744073709551616
  | _ => True
/-- The two values do not share a big number. -/
def Apart (v1 v2 : Value) : Prop := ∀ g1 g2, v1 = .iface 122 (.agg #[.int .i64 0, .pointer (some ⟨g1, 0, none⟩)]) → v2 = .iface 122 (.agg #[.int .i64 0, .pointer (some ⟨g2, 0, none⟩)]) → g1 ≠ g2
theorem notNum {B : Nat} {w : World} {v : Value} {s : Sca} (h : ScaV B w v s) (h2 : s.kind ≠ 2) (h3 : s.kind ≠ 3) : ∃ T x, v = .iface T x ∧ NotNum T x := by
  cases s
  · cases h; exact ⟨_, _, rfl, nnNone _⟩
  · cases h; exact ⟨_, _, rfl, nnBool _⟩
  · exact absurd rfl h2
  · exact absurd rfl h3
  · cases h; exact ⟨_, _, rfl, nnString _⟩
  · cases h; exact ⟨_, _, rfl, nnBytes _⟩
theorem okEq : OpOk 37 := Or.inl rfl

/-- CompareDepth (EQL) of two scalars that are not both strings. -/
theorem cdEq_c (B1 B2 : Nat) (v1 v2 : Value) (s t : Sca) (d : Int) (w : World) (hd : ¬ d < 1) (hd2 : d ≤ 1000) (h1 : ScaV B1 w v1 s) (h2 : ScaV B2 w v2 t) (f1 : s.fit) (f2 : t.fit) (ha : Apart v1 v2) (hT : Thr w) (hns : ¬ (s.kind = 4)) :
    Calls Tryz.prog 29 #[.int .i8 37, v1, v2, .int .i64 d] w fun e w' => e = .returned (.tuple #[.bool (eqS s t), .nilIface]) ∧ Below w.heap.size w w' := by
  have hs := sameType_c B1 B2 v1 v2 s t w h1 h2
  by_cases hk : s.kind = t.kind
  · cases s <;> cases t <;> simp [Sca.kind] at hk hns
    · cases h1; cases h2; exact cdNone_c d w hd hd2
    · cases h1; cases h2
      rename_i a b
      have := cdBool_c 37 a b d w okEq hd hd2
      rw [show tw 37 ((if a = true then 1 else 0) - if b = true then 1 else 0) = eqS (.bool a) (.bool b) by cases a <;> cases b <;> rfl] at this
      exact this
    · obtain ⟨u1, rfl, k1⟩ := h1
      obtain ⟨u2, rfl, k2⟩ := h2
      exact cdInt_c B1 B2 u1 u2 _ _ 37 d w okEq hd hd2 k1 k2 f1 f2 (fun g1 g2 e1 e2 => ha g1 g2 (by rw [e1]) (by rw [e2]))
    · cases h1; cases h2; exact cdFloat_c 37 _ _ d w okEq hd hd2
    · cases h1; cases h2; exact cdBytes_c 37 _ _ d w okEq hd hd2
  · rw [show (s.kind == t.kind) = false by simp [hk]] at hs
    by_cases k2 : s.kind = 2
    · cases s <;> simp [Sca.kind] at k2
      obtain ⟨u1, rfl, g1⟩ := h1
      by_cases k3 : t.kind = 3
      · cases t <;> simp [Sca.kind] at k3
        cases h2
        exact cdIntFloat_c B1 u1 _ _ 37 d w okEq hd hd2 f2 g1 f1 hT
      · obtain ⟨T, x, rfl, hn⟩ := notNum h2 (fun e => hk e.symm) k3
        obtain ⟨y, p, rfl⟩ := g1.shape
        rw [show eqS (.int _) t = false by cases t <;> first | rfl | exact absurd rfl hk | exact absurd rfl k3]
        exact cdIntO_c T y p x d w hd hd2 hn (Lib.hid hs)
    · by_cases k3 : s.kind = 3
      · cases s <;> simp [Sca.kind] at k3
        cases h1
        by_cases k4 : t.kind = 2
        · cases t <;> simp [Sca.kind] at k4
          obtain ⟨u2, rfl, g2⟩ := h2
          exact cdFloatInt_c B2 u2 _ _ 37 d w okEq hd hd2 f1 g2 f2 hT
        · obtain ⟨T, x, rfl, hn⟩ := notNum h2 k4 (fun e => hk e.symm)
          rw [show eqS (.float _) t = false by cases t <;> first | rfl | exact absurd rfl hk | exact absurd rfl k4]
          exact cdFloatO_c T _ x d w hd hd2 hn (Lib.hid hs)
      · obtain ⟨T, x, rfl, hn⟩ := notNum h1 k2 k3
        obtain ⟨T2, x2, K2, rfl, _⟩ := typeAt h2
        rw [show eqS s t = false by cases s <;> cases t <;> first | rfl | exact absurd rfl hk | exact absurd rfl k2 | exact absurd rfl k3]
        exact cdOther_c T T2 x x2 d w hd hd2 hn (Lib.hid hs)

/-- The variable CompareLimit as the program lays it. -/
def Lim (w : World) : Prop := w.cell? ⟨0, 0, none⟩ = some (.int .i64 10)
theorem Lim.below {w w' : World} (h : Lim w) (hb : Below w.heap.size w w') : Lim w' := (hb.cell (p := ⟨0, 0, none⟩) (lt_of_cell h)).trans h
theorem as141String (v : Value) (w : World) : (Instr.typeAssert (.iface 141 v) 57 141 true).run Tryz.prog w = .ok (.tuple #[v, .bool true]) w := by kernel_rfl
theorem a141NoneType (v : Value) (w : World) : (Instr.typeAssert (.iface 137 v) 57 141 true).run Tryz.prog w = .ok (.tuple #[.string ⟨#[]⟩, .bool false]) w := by kernel_rfl
theorem a141Bool (v : Value) (w : World) : (Instr.typeAssert (.iface 138 v) 57 141 true).run Tryz.prog w = .ok (.tuple #[.string ⟨#[]⟩, .bool false]) w := by kernel_rfl
theorem a141Int (v : Value) (w : World) : (Instr.typeAssert (.iface 122 v) 57 141 true).run Tryz.prog w = .ok (.tuple #[.string ⟨#[]⟩, .bool false]) w := by kernel_rfl
theorem a141Float (v : Value) (w : World) : (Instr.typeAssert (.iface 123 v) 57 141 true).run Tryz.prog w = .ok (.tuple #[.string ⟨#[]⟩, .bool false]) w := by kernel_rfl
theorem a141Bytes (v : Value) (w : World) : (Instr.typeAssert (.iface 142 v) 57 141 true).run Tryz.prog w = .ok (.tuple #[.string ⟨#[]⟩, .bool false]) w := by kernel_rfl
theorem as141O {B : Nat} {w0 : World} {v : Value} {s : Sca} (h : ScaV B w0 v s) (hk : ¬ s.kind = 4) (w : World) : (Instr.typeAssert v 57 141 true).run Tryz.prog w = .ok (.tuple #[.string ⟨#[]⟩, .bool false]) w := by
  cases s
  · cases h; exact a141NoneType _ w
  · cases h; exact a141Bool _ w
  · obtain ⟨u, rfl, _⟩ := h; exact a141Int _ w
  · cases h; exact a141Float _ w
  · exact absurd rfl hk
  · cases h; exact a141Bytes _ w
set_option maxRecDepth 100000 in
theorem equalDepth_c (v1 v2 : Value) (b : Bool) (d : Int) (w : World) (HC : Hid (Calls Tryz.prog 29 #[.int .i8 37, v1, v2, .int .i64 d] w fun e w' => e = .returned (.tuple #[.bool b, .nilIface]) ∧ Below w.heap.size w w')) :
    Calls Tryz.prog 149 #[v1, v2, .int .i64 d] w fun e w' => e = .returned (.tuple #[.bool b, .nilIface]) ∧ Below w.heap.size w w' := by
  go_enter Tryz.func149, Tryz.ntmps149
  go_wp2_with (go_at_call 29; (with_reducible refine HC.out.mono ?_); rintro e w1 ⟨rfl, hb1⟩; have HB := Lib.hid hb1; clear hb1)
  go_ret2
  exact ⟨rfl, HB.out⟩
set_option maxRecDepth 100000 in
/-- starlark.Equal of two scalars. -/
theorem equal_c (B1 B2 : Nat) (v1 v2 : Value) (s t : Sca) (w : World) (h1 : ScaV B1 w v1 s) (h2 : ScaV B2 w v2 t) (f1 : s.fit) (f2 : t.fit) (ha : Apart v1 v2) (hT : Thr w) (hL : Lim w) :
    Calls Tryz.prog 121 #[v1, v2] w fun e w' => e = .returned (.tuple #[.bool (eqS s t), .nilIface]) ∧ Below w.heap.size w w' := by
  by_cases hk : s.kind = 4
  · cases s <;> simp [Sca.kind] at hk
    cases h1
    have hta := as141String
    by_cases hk2 : t.kind = 4
    · cases t <;> simp [Sca.kind] at hk2
      cases h2
      have hq := eqlStr
      clear ha hT hL f1 f2
      go_enter Tryz.func121, Tryz.ntmps121
      go_wp2
      go_ret2
      exact ⟨rfl, Below.refl _ _⟩
    · obtain ⟨T2, x2, K2, rfl, _⟩ := typeAt h2
      have hne : 141 ≠ T2 := by
        cases t <;> first | exact absurd rfl hk2 | (cases h2; decide) | (obtain ⟨u, e, _⟩ := h2; cases e; decide)
      have hq := fun a w => eqlStrO T2 a x2 w hne
      rw [show eqS (.str _) t = false by cases t <;> first | rfl | exact absurd rfl hk2]
      clear ha hT hL f1 f2 h2 hne hk2
      go_enter Tryz.func121, Tryz.ntmps121
      go_wp2
      go_ret2
      exact ⟨rfl, Below.refl _ _⟩
  · have hta := as141O h1 hk
    have HC := Lib.hid (equalDepth_c v1 v2 (eqS s t) 10 w (Lib.hid (cdEq_c B1 B2 v1 v2 s t 10 w (by decide) (by decide) h1 h2 f1 f2 ha hT hk)))
    unfold Lim at hL
    clear ha hT f1 f2 h1 h2 hk
    go_enter Tryz.func121, Tryz.ntmps121
    go_wp2_with (go_at_call 149; (with_reducible refine HC.out.mono ?_); rintro e w1 ⟨rfl, hb1⟩; have HB := Lib.hid hb1; clear hb1)
    go_ret2
    exact ⟨rfl, HB.out⟩
end Go.Proofs.YtkplnbjgkhmbcaaGreatDoor

namespace Go.Proofs.YtkplnbjgkhmbcaaGreatDoor
open Go.RowKit Go.Shelf Go.Proofs.YtkplnbjgkhmbcaaGreatDoorW.PrintWords Go.Proofs.YtkplnbjgkhmbcaaGreatDoorW.PrintLast Go.Proofs.YtkplnbjgkhmbcaaGreatDoorW.PrintMore
set_option linter.unusedVariables false
set_option linter.unusedSimpArgs false

theorem receiver_c (g : Nat) (a f r : Value) (w : World) (h : w.heap[g]? = some (.cells #[a, f, r] 282 (0, 0))) : Calls Tryz.prog 116 #[.pointer (some ⟨g, 0, none⟩)] w fun e w' => e = .returned r ∧ w' = w := by
  have c2 := blk_cell h 2 _ rfl
  clear h
  go_enter Tryz.func116, Tryz.ntmps116
  go_wp2
  go_ret
  exact ⟨rfl, rfl⟩
theorem bname_c (g : Nat) (a f r : Value) (w : World) (h : w.heap[g]? = some (.cells #[a, f, r] 282 (0, 0))) : Calls Tryz.prog 118 #[.pointer (some ⟨g, 0, none⟩)] w fun e w' => e = .returned a ∧ w' = w := by
  have c2 := blk_cell h 0 _ rfl
  clear h
  go_enter Tryz.func118, Tryz.ntmps118
  go_wp2
  go_ret
  exact ⟨rfl, rfl⟩
theorem newBuiltin_c (n : ByteArray) (k : FuncId) (w : World) : Calls Tryz.prog 114 #[.string n, .func (.func k) #[] #[]] w fun e w' => e = .returned (.pointer (some ⟨w.heap.size, 0, none⟩)) ∧ w' = w.alloc (.cells #[.string n, .func (.func k) #[] #[], .nilIface] 282) := by
  go_enter Tryz.func114, Tryz.ntmps114
  go_wp2
  go_ret
  exact ⟨rfl, rfl⟩

set_option maxRecDepth 100000 in
theorem bindReceiver_c (g : Nat) (n : ByteArray) (k : FuncId) (T : TypeId) (x : Value) (w : World) (h : w.heap[g]? = some (.cells #[.string n, .func (.func k) #[] #[], .nilIface] 282 (0, 0))) : Calls Tryz.prog 115 #[.pointer (some ⟨g, 0, none⟩), .iface T x] w fun e w' => e = .returned (.pointer (some ⟨w.heap.size, 0, none⟩)) ∧ Below w.heap.size w w' ∧ w'.heap[w.heap.size]? = some (.cells #[.string n, .func (.func k) #[] #[], .iface T x] 282 (0, 0)) := by
  have c0 := blk_cell h 0 _ rfl
  have c1 := blk_cell h 1 _ rfl
  clear h
  go_enter Tryz.func115, Tryz.ntmps115
  go_wp2_with fail
  go_region
  all_goals go_wp2
  all_goals go_ret
  all_goals exact ⟨rfl, (Below.refl _ w).drew.alloc (Nat.le_refl _) _, blk_new _ _⟩

/-- A list that may be turned. -/
def LT (w : World) (g : Nat) (v : Value) : Prop := w.heap[g]? = some (.cells #[v, .bool false, .int .u32 0] 167 (0, 0))
set_option maxRecDepth 100000 in
theorem checkMutable_c (g : Nat) (v : Value) (s : ByteArray) (w : World) (h : LT w g v) : Calls Tryz.prog 119 #[.pointer (some ⟨g, 0, none⟩), .string s] w fun e w' => e = .returned .nilIface ∧ w' = w := by
  have c1 := blk_cell h 1 _ rfl
  have c2 := blk_cell h 2 _ rfl
  clear h
  go_enter Tryz.func119, Tryz.ntmps119
  go_wp2
  go_ret
  exact ⟨rfl, rfl⟩
set_option maxRecDepth 100000 in
theorem listLen_c (g n : Nat) (A : Option Addr) (c : Nat) (w : World) (h : LT w g (.slice A n c)) : Calls Tryz.prog 122 #[.pointer (some ⟨g, 0, none⟩)] w fun e w' => e = .returned (.int .i64 n) ∧ w' = w := by
  have c0 := blk_cell h 0 _ rfl
  clear h
  go_enter Tryz.func122, Tryz.ntmps122
  go_wp2
  go_ret
  exact ⟨rfl, rfl⟩

set_option maxRecDepth 100000 in
/-- One argument, one wanted. -/
theorem checkPos_c (s : ByteArray) (A : Option Addr) (c : Nat) (w : World) : Calls Tryz.prog 147 #[.string s, .slice A 1 c, .slice none 0 0, .int .i64 1, .int .i64 1] w fun e w' => e = .returned .nilIface ∧ w' = w := by
  go_enter Tryz.func147, Tryz.ntmps147
  go_wp2
  go_ret
  exact ⟨rfl, rfl⟩

theorem asValPtr (v : Value) (w : World) : (Instr.typeAssert (.iface 212 v) 20 212 true).run Tryz.prog w = .ok (.tuple #[v, .bool true]) w := by kernel_rfl
set_option maxRecDepth 100000 in
theorem unpackArg_c (v v0 : Value) (T : TypeId) (g : Nat) (w : World) (h : w.cell? ⟨g, 0, none⟩ = some v0) (hf : w.frozen? ⟨g, 0, none⟩ = false) : Calls Tryz.prog 148 #[.iface T v, .iface 212 (.pointer (some ⟨g, 0, none⟩))] w fun e w' => e = .returned .nilIface ∧ w' = w.setCell ⟨g, 0, none⟩ (.iface T v) := by
  have hta := asValPtr
  go_enter Tryz.func148, Tryz.ntmps148
  go_wp2
  go_ret
  exact ⟨rfl, rfl⟩
end Go.Proofs.YtkplnbjgkhmbcaaGreatDoor

namespace Go.Proofs.YtkplnbjgkhmbcaaGreatDoor
open Go.RowKit Go.Shelf Go.Proofs.YtkplnbjgkhmbcaaGreatDoorW.PrintWords Go.Proofs.YtkplnbjgkhmbcaaGreatDoorW.PrintLast Go.Proofs.YtkplnbjgkhmbcaaGreatDoorW.PrintMore
set_option linter.unusedVariables false
set_option linter.unusedSimpArgs false

set_option maxRecDepth 100000 in
theorem unpackPos_c (s : ByteArray) (a b g c : Nat) (v v0 : Value) (T : TypeId) (w : World) (ha : w.cell? ⟨a, 0, none⟩ = some (.iface T v)) (hb : w.cell? ⟨b, 0, none⟩ = some (.iface 212 (.pointer (some ⟨g, 0, none⟩)))) (hg : w.cell? ⟨g, 0, none⟩ = some v0) (hf : w.frozen? ⟨g, 0, none⟩ = false) :
    Calls Tryz.prog 117 #[.string s, .slice (some ⟨a, 0, none⟩) 1 c, .slice none 0 0, .int .i64 1, .slice (some ⟨b, 0, none⟩) 1 1] w fun e w' => e = .returned .nilIface ∧ w' = w.setCell ⟨g, 0, none⟩ (.iface T v) := by
  have HP := Lib.hid (fun w => checkPos_c s (some ⟨a, 0, none⟩) c w)
  have HU := Lib.hid (unpackArg_c v v0 T g w hg hf)
  clear hg hf
  go_enter Tryz.func117, Tryz.ntmps117
  go_wp2_with (go_at_call 147; (with_reducible refine (HP.out _).mono ?_); rintro e w1 ⟨rfl, hw1⟩; have hw2 := hw1.symm; clear hw1; subst hw2)
  go_loopw [27] (fun i wr => (i = .int .i64 0 ∧ wr = w) ∨ (i = .int .i64 1 ∧ wr = w.setCell ⟨g, 0, none⟩ (.iface T v))) (fun i _ => 1 - (intOf i).toNat)
  case atStart => exact Or.inl ⟨rfl, rfl⟩
  case round =>
    rcases hrel with ⟨rfl, rfl⟩ | ⟨rfl, rfl⟩
    · go_wp2_with (go_at_call 148; (with_reducible refine HU.out.mono ?_); rintro e w1 ⟨rfl, rfl⟩)
      go_roundw
      case rel => exact Or.inr ⟨rfl, trivial⟩
      case measure => simp [intOf]
    · go_wp2
      go_ret
      exact ⟨rfl, rfl⟩
end Go.Proofs.YtkplnbjgkhmbcaaGreatDoor
