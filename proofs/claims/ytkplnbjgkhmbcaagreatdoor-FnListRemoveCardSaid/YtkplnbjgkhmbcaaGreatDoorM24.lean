/- starlark: signum64, b2i, threeway, floatCmp, strings.Compare; the methods Type. · starlark: NewInt, bigInt, Int.Cmp, Float.Cmp, CompareSameType of Bool, String, Bytes. -/
import Derived.Test.YtkplnbjgkhmbcaaGreatDoorM23
import Derived.Test.YtkplnbjgkhmbcaaGreatDoorM06
import Derived.Lib.Bytealg
namespace Go.Proofs.YtkplnbjgkhmbcaaGreatDoor
open Go.RowKit Go.Shelf Go.Proofs.YtkplnbjgkhmbcaaGreatDoorW.PrintWords Go.Proofs.YtkplnbjgkhmbcaaGreatDoorW.PrintLast Go.Proofs.YtkplnbjgkhmbcaaGreatDoorW.PrintMore
set_option linter.unusedVariables false
set_option linter.unusedSimpArgs false

theorem b2i_c (b : Bool) (w : World) : Calls Tryz.prog 354 #[.bool b] w fun e w' => e = .returned (.int .i64 (if b then 1 else 0)) ∧ w' = w := by
  cases b
  all_goals
    go_enter Tryz.func354, Tryz.ntmps354
    go_wp2
    go_ret
    exact ⟨rfl, rfl⟩

/-- What threeway tells of an order. -/
def tw (op c : Int) : Bool := if op = 37 then c == 0 else if op = 38 then c != 0 else if op = 36 then decide (c ≤ 0) else if op = 33 then decide (c < 0) else if op = 35 then decide (0 ≤ c) else decide (0 < c)
def OpOk (op : Int) : Prop := op = 37 ∨ op = 38 ∨ op = 36 ∨ op = 33 ∨ op = 35 ∨ op = 34
set_option maxRecDepth 100000 in
theorem threeway_c (op c : Int) (w : World) (h : OpOk op) (hc : c = -1 ∨ c = 0 ∨ c = 1) : Calls Tryz.prog 61 #[.int .i8 op, .int .i64 c] w fun e w' => e = .returned (.bool (tw op c)) ∧ w' = w := by
  unfold OpOk at h
  rcases h with rfl | rfl | rfl | rfl | rfl | rfl
  all_goals
    rcases hc with rfl | rfl | rfl
    all_goals
      go_enter Tryz.func61, Tryz.ntmps61
      go_wp2
      go_ret
      exact ⟨rfl, rfl⟩

/-- How two floats stand, and each by itself. -/
theorem ord_three (a b : Nat) : (f64ord a b = none → (fdat a).isNaN = true ∨ (fdat b).isNaN = true) ∧ ((fdat a).isNaN = true → f64ord a b = none ∧ f64ord a a = none) ∧ ((fdat b).isNaN = true → f64ord a b = none ∧ f64ord b b = none) ∧ ((fdat a).isNaN = false → f64ord a a = some .eq) ∧ ((fdat b).isNaN = false → f64ord b b = some .eq) := by
  refine ⟨?_, ?_, ?_, ?_, ?_⟩
  · intro h
    rw [ord_dat] at h
    cases ha : fdat a <;> cases hb : fdat b <;> rw [ha, hb] at h <;> simp [Ieee.Datum.order, Ieee.Datum.isNaN] at h ⊢
  · intro h
    rw [ord_dat, ord_dat]
    cases h2 : fdat a <;> simp [h2, Ieee.Datum.isNaN] at h
    exact ⟨rfl, rfl⟩
  · intro h
    rw [ord_dat, ord_dat]
    cases h2 : fdat b <;> simp [h2, Ieee.Datum.isNaN] at h
    refine ⟨?_, rfl⟩
    cases fdat a <;> rfl
  · intro h; have := ord_self a; rw [h] at this; simpa using this
  · intro h; have := ord_self b; rw [h] at this; simpa using this

set_option maxRecDepth 100000 in
theorem floatCmp_c (a b : Nat) (w : World) : Calls Tryz.prog 335 #[.float .f64 a, .float .f64 b] w fun e w' => e = .returned (.int .i64 (fcmpF a b)) ∧ w' = w := by
  obtain ⟨h0, h1, h2, h3, h4⟩ := ord_three a b
  have HF : Hid (fcmpF a b = fcmpO (f64ord a b) (fdat a).isNaN (fdat b).isNaN) := Lib.hid rfl
  obtain ⟨o, ho⟩ : ∃ o, f64ord a b = o := ⟨_, rfl⟩
  obtain ⟨oa, hoa⟩ : ∃ o, f64ord a a = o := ⟨_, rfl⟩
  obtain ⟨ob, hob⟩ : ∃ o, f64ord b b = o := ⟨_, rfl⟩
  obtain ⟨p, hp⟩ : ∃ p, (fdat a).isNaN = p := ⟨_, rfl⟩
  obtain ⟨q, hq⟩ : ∃ q, (fdat b).isNaN = q := ⟨_, rfl⟩
  have hod : FloatKind.f64.format.order a b = o := ho
  have hoda : FloatKind.f64.format.order a a = oa := hoa
  have hodb : FloatKind.f64.format.order b b = ob := hob
  rw [ho, hp, hq] at HF
  rw [ho, hp, hq] at h0
  rw [ho, hp, hoa] at h1
  rw [ho, hq, hob] at h2
  rw [hp, hoa] at h3
  rw [hq, hob] at h4
  rw [HF.out]
  clear HF ho hoa hob hp hq
  cases p <;> cases q
  all_goals
    simp at h0 h1 h2 h3 h4
  · subst h3 h4
    rcases o with _ | o
    · exact absurd rfl h0
    · clear h0
      cases o
      all_goals
        go_enter Tryz.func335, Tryz.ntmps335
        go_wp2
        go_ret
        exact ⟨rfl, rfl⟩
  · obtain ⟨rfl, rfl⟩ := h2
    subst h3
    go_enter Tryz.func335, Tryz.ntmps335
    go_wp2
    go_ret
    exact ⟨rfl, rfl⟩
  · obtain ⟨rfl, rfl⟩ := h1
    subst h4
    go_enter Tryz.func335, Tryz.ntmps335
    go_wp2
    go_ret
    exact ⟨rfl, rfl⟩
  · obtain ⟨rfl, rfl⟩ := h1
    obtain ⟨_, rfl⟩ := h2
    go_enter Tryz.func335, Tryz.ntmps335
    go_wp2
    go_ret
    exact ⟨rfl, rfl⟩

theorem call_cmpstring (a b : ByteArray) (w : World) : (callFunc 368 #[.string a, .string b]).run Tryz.prog w = .ok (.value (.int .i64 (Lib.compareBytes a.data.toList b.data.toList))) w := by
  rw [run_callFunc_extern (e := Extern.BytealgCompare.compare) Tryz.func368 (by kernel_rfl) (by kernel_rfl) (by kernel_rfl) (by kernel_rfl) _ w, Lib.run_compareString]
  rfl
theorem compareString_c (a b : ByteArray) (w : World) : Calls Tryz.prog 366 #[.string a, .string b] w fun e w' => e = .returned (.int .i64 (Lib.compareBytes a.data.toList b.data.toList)) ∧ w' = w := by
  have hc := call_cmpstring
  go_enter Tryz.func366, Tryz.ntmps366
  go_wp2
  go_ret
  exact ⟨rfl, rfl⟩
theorem stringsCompare_c (a b : ByteArray) (w : World) : Calls Tryz.prog 364 #[.string a, .string b] w fun e w' => e = .returned (.int .i64 (Lib.compareBytes a.data.toList b.data.toList)) ∧ w' = w := by
  go_enter Tryz.func364, Tryz.ntmps364
  go_wp2_with (go_at_call 366; refine (compareString_c _ _ _).mono ?_; rintro e w' ⟨rfl, rfl⟩)
  go_ret
  exact ⟨rfl, rfl⟩

theorem signum_plain (x : Int) (hx : -9223372036854775808 < x ∧ x < 9223372036854775808) : wrap64 (bits BinOp.or IntKind.u64 (IntKind.u64.wrap (x / 9223372036854775808)) (IntKind.u64.wrap (-x) / 9223372036854775808)) = sgn x := by
  have hw : ∀ z : Int, IntKind.u64.wrap z = z % 18446744073709551616 := fun z => by simp [IntKind.wrap, IntKind.signed, IntKind.bits]
  have k1 : wrap64 (bits BinOp.or IntKind.u64 18446744073709551615 0) = -1 := by kernel_rfl
  have k2 : wrap64 (bits BinOp.or IntKind.u64 0 0) = 0 := by kernel_rfl
  have k3 : wrap64 (bits BinOp.or IntKind.u64 0 1) = 1 := by kernel_rfl
  rw [hw, hw]
  rcases Int.lt_trichotomy x 0 with h | h | h
  · rw [show x / 9223372036854775808 = -1 by omega, show -x % 18446744073709551616 / 9223372036854775808 = 0 by omega, sgn_of_neg h]; exact k1
  · subst h; exact k2
  · rw [show x / 9223372036854775808 = 0 by omega, show -x % 18446744073709551616 / 9223372036854775808 = 1 by omega, sgn_of_pos h]; exact k3
set_option maxRecDepth 100000 in
theorem signum64_c (x : Int) (w : World) (hx : -9223372036854775808 < x ∧ x < 9223372036854775808) : Calls Tryz.prog 286 #[.int .i64 x] w fun e w' => e = .returned (.int .i64 (sgn x)) ∧ w' = w := by
  go_enter Tryz.func286, Tryz.ntmps286
  go_wp2
  go_ret
  exact ⟨congrArg (fun z => Ending.returned (.int .i64 z)) (signum_plain x hx), rfl⟩
end Go.Proofs.YtkplnbjgkhmbcaaGreatDoor

namespace Go.Proofs.YtkplnbjgkhmbcaaGreatDoor
open Go.RowKit Go.Shelf Go.Proofs.YtkplnbjgkhmbcaaGreatDoorW.PrintWords Go.Proofs.YtkplnbjgkhmbcaaGreatDoorW.PrintLast Go.Proofs.YtkplnbjgkhmbcaaGreatDoorW.PrintMore
set_option linter.unusedVariables false
set_option linter.unusedSimpArgs false

/-- An Int of the number x, new. -/
def NewI (w : World) (x : Int) (e : Ending) (w' : World) : Prop :=
  ∃ g n v zs, w.heap.size ≤ g ∧ e = .returned (.pointer (some ⟨g, 0, none⟩)) ∧ PI w' g 0 n v zs ∧ (zs = [] → n = false) ∧ bval n zs = x ∧ zs.length ≤ 1 ∧ Below w.heap.size w w'

theorem irow_oneB (w : World) (x : Int) (t : TypeId) : IRow .u64 (w.alloc (.cells #[.int .u64 x] t)) w.heap.size [x] := by
  have hb := blk_new w (.cells #[.int .u64 x] t)
  refine ⟨fun i hi => ?_, fun i hi => ?_⟩
  · simp at hi; subst hi; exact blk_cell hb 0 _ rfl
  · simp at hi; subst hi; exact blk_free hb 0
theorem newI_of (w : World) (x y : Int) (n : Bool) (t : TypeId) (hy : 0 < y ∧ y < 18446744073709551616) (hx : x = if n then -y else y) : NewI w x (.returned (.pointer (some ⟨w.heap.size + 1, 0, none⟩))) ((w.alloc (.cells #[.int .u64 y] t)).alloc (.cells #[.bool n, .slice (some ⟨w.heap.size, 0, none⟩) 1 1] 196)) := by
  have h1 := (irow_oneB w y t).sl' (by simp) (c := 1) (by simp) (by simp)
  refine ⟨w.heap.size + 1, n, _, [y], by omega, rfl, ⟨⟨_, _, by simpa using blk_new (w.alloc (.cells #[.int .u64 y] t)) (.cells #[.bool n, .slice (some ⟨w.heap.size, 0, none⟩) 1 1] 196), rfl, rfl⟩, ((show Sl .u64 w.heap.size (w.alloc (.cells #[.int .u64 y] t)) (.slice (some ⟨w.heap.size, 0, none⟩) 1 1) [y] by simpa using h1).mono (Nat.zero_le _)).alloc _, ?_, ?_⟩, (fun h => by cases h), ?_, by simp, ((Below.refl _ w).alloc (Nat.le_refl _) _).alloc (by simp) _⟩
  · intro z hz; rw [List.mem_singleton] at hz; omega
  · intro _; simp; omega
  · rw [hx]; unfold bval; cases n <;> simp [leN]

set_option maxRecDepth 100000 in
theorem newInt_c (x : Int) (w : World) (hs : sml x = true) : Calls Tryz.prog 144 #[.int .i64 x] w (NewI w x) := by
  unfold sml at hs
  simp at hs
  rcases Int.lt_trichotomy x 0 with h | h | h
  · have e1 : IntKind.u64.wrap (-IntKind.u64.wrap x) = -x := by
      have hw : ∀ z : Int, IntKind.u64.wrap z = z % 18446744073709551616 := fun z => by simp [IntKind.wrap, IntKind.signed, IntKind.bits]
      rw [hw, hw]; omega
    have HE := Lib.hid (newI_of w x (-x) true)
    go_enter Tryz.func144, Tryz.ntmps144
    go_wp2
    go_ret
    exact HE.out _ (by omega) (by simp)
  · subst h
    go_enter Tryz.func144, Tryz.ntmps144
    go_wp2
    go_ret
    exact ⟨w.heap.size, false, _, [], Nat.le_refl _, rfl, ⟨⟨_, _, blk_new _ _, rfl, rfl⟩, Sl.nil, (fun _ h => by cases h), fun h => absurd rfl h⟩, (fun _ => rfl), rfl, by simp, (Below.refl _ w).alloc (Nat.le_refl _) _⟩
  · have e2 : decide (x < 0) = false := by simp; omega
    have HE := Lib.hid (newI_of w x x false)
    go_enter Tryz.func144, Tryz.ntmps144
    go_wp2
    go_ret
    exact HE.out _ (by omega) (by simp)
/-- An Int for the number x: either the one that stands there, or a new one. -/
def BigI (B : Nat) (w : World) (u : Value) (x : Int) (e : Ending) (w' : World) : Prop :=
  ∃ g n v zs, e = .returned (.pointer (some ⟨g, 0, none⟩)) ∧ PI w' g 0 n v zs ∧ (zs = [] → n = false) ∧ bval n zs = x ∧ zs.length ≤ 1000000 ∧ Below w.heap.size w w' ∧ (w.heap.size ≤ g ∨ u = .agg #[.int .i64 0, .pointer (some ⟨g, 0, none⟩)])

set_option maxRecDepth 100000 in
theorem bigInt_c (B : Nat) (u : Value) (x : Int) (w : World) (h : SIv B w u x) (hx : x.natAbs < 256 ^ 60) :
    Calls Tryz.prog 327 #[u] w (BigI B w u x) := by
  have HF := Lib.hid (fun n zs hw ht hv => few_words n zs x hw ht hv hx)
  clear hx
  rcases h with ⟨hs, rfl⟩ | ⟨hs, g, neg, v, zs, rfl, hg, hb, hv, hl⟩
  · have HR := Lib.hid (fun w' : World => newInt_c x w' hs)
    clear hs HF
    go_enter Tryz.func327, Tryz.ntmps327
    go_wp2_with (first
      | (go_at_call 98; (with_reducible refine (get_c _ _ _).mono ?_); rintro e w1 ⟨rfl, hb1⟩; have HB := Lib.hid (((Below.refl _ w).alloc (Nat.le_refl _) _).trans (hb1.mono (by simp))); clear hb1)
      | (go_at_call 144; (with_reducible refine (HR.out _).mono ?_); rintro e w2 ⟨g, n, v, zs, h1, rfl, h2, h3, h4, h5, h6⟩; have HE := Lib.hid (And.intro h1 (And.intro h2 (And.intro h3 (And.intro h4 (And.intro h5 h6))))); clear h1 h2 h3 h4 h5 h6))
    go_ret
    obtain ⟨h1, h2, h3, h4, h5, h6⟩ := HE.out
    exact ⟨g, n, v, zs, rfl, h2, h3, h4, by omega, HB.out.trans (h6.mono HB.out.size), Or.inl (Nat.le_trans HB.out.size h1)⟩
  · have hzs := HF.out neg zs hb.words hb.top hv
    have hne : zs ≠ [] := by
      rintro rfl
      rw [show x = 0 by rw [← hv]; unfold bval; cases neg <;> rfl] at hs
      cases hs
    have HP : Hid (∀ w1, Below w.heap.size w w1 → PI w1 g 0 neg v zs) := Lib.hid fun w1 h1 => by
      have h2 := hb.below h1
      exact ⟨⟨_, _, h2.blk, rfl, rfl⟩, h2.sl.mono (Nat.zero_le _), h2.words, h2.top⟩
    have hlt := lt_blk hb.blk
    have HQ := Lib.hid (And.intro hzs (And.intro hne hv))
    clear hs HF hzs hne hb hl hv
    go_enter Tryz.func327, Tryz.ntmps327
    go_wp2_with (go_at_call 98; (with_reducible refine (get_c _ _ _).mono ?_); rintro e w1 ⟨rfl, hb1⟩; have HB := Lib.hid (((Below.refl _ w).alloc (Nat.le_refl _) _).trans (hb1.mono (by simp))); clear hb1)
    go_ret
    exact ⟨g, neg, v, zs, rfl, HP.out _ HB.out, fun h => absurd h HQ.out.2.1, HQ.out.2.2, by have := HQ.out.1; omega, HB.out, Or.inr rfl⟩

theorem assertInt1 (v : Value) (w : World) : (Instr.typeAssert (.iface 122 v) 57 122 false).run Tryz.prog w = .ok v w := by kernel_rfl
theorem assertFloat1 (v : Value) (w : World) : (Instr.typeAssert (.iface 123 v) 57 123 false).run Tryz.prog w = .ok v w := by kernel_rfl
theorem assertBool1 (v : Value) (w : World) : (Instr.typeAssert (.iface 138 v) 57 138 false).run Tryz.prog w = .ok v w := by kernel_rfl
theorem assertBytes1 (v : Value) (w : World) : (Instr.typeAssert (.iface 142 v) 57 142 false).run Tryz.prog w = .ok v w := by kernel_rfl
theorem assertString1 (v : Value) (w : World) : (Instr.typeAssert (.iface 141 v) 57 141 false).run Tryz.prog w = .ok v w := by kernel_rfl

set_option maxRecDepth 100000 in
theorem floatCmpM_c (a b : Nat) (d : Int) (w : World) : Calls Tryz.prog 329 #[.float .f64 a, .iface 123 (.float .f64 b), .int .i64 d] w fun e w' => e = .returned (.tuple #[.int .i64 (fcmpF a b), .nilIface]) ∧ w' = w := by
  have hta := assertFloat1
  go_enter Tryz.func329, Tryz.ntmps329
  go_wp2_with (go_at_call 335; refine (floatCmp_c _ _ _).mono ?_; rintro e w1 ⟨rfl, rfl⟩)
  go_ret2
  exact ⟨rfl, rfl⟩

set_option maxRecDepth 100000 in
theorem boolSame_c (op : Int) (a b : Bool) (d : Int) (w : World) (ho : OpOk op) : Calls Tryz.prog 348 #[.bool a, .int .i8 op, .iface 138 (.bool b), .int .i64 d] w fun e w' => e = .returned (.tuple #[.bool (tw op ((if a then 1 else 0) - (if b then 1 else 0))), .nilIface]) ∧ w' = w := by
  have hta := assertBool1
  have HT := Lib.hid (fun c w => threeway_c op c w ho)
  clear ho
  cases a <;> cases b
  all_goals
    go_enter Tryz.func348, Tryz.ntmps348
    go_wp2_with (first
      | (go_at_call 354; refine (b2i_c _ _).mono ?_; rintro e w1 ⟨rfl, rfl⟩)
      | (go_at_call 61; refine (HT.out _ _ (by decide)).mono ?_; rintro e w1 ⟨rfl, rfl⟩))
    go_ret2
    exact ⟨rfl, rfl⟩

theorem compare_vals (a b : List UInt8) : Lib.compareBytes a b = -1 ∨ Lib.compareBytes a b = 0 ∨ Lib.compareBytes a b = 1 := by
  induction a generalizing b with
  | nil => cases b <;> simp [Lib.compareBytes]
  | cons x l ih => cases b with
    | nil => simp [Lib.compareBytes]
    | cons y m => unfold Lib.compareBytes; split <;> (try split) <;> simp [ih]
set_option maxRecDepth 100000 in
theorem bytesSame_c (op : Int) (a b : ByteArray) (d : Int) (w : World) (ho : OpOk op) : Calls Tryz.prog 369 #[.string a, .int .i8 op, .iface 142 (.string b), .int .i64 d] w fun e w' => e = .returned (.tuple #[.bool (tw op (Lib.compareBytes a.data.toList b.data.toList)), .nilIface]) ∧ w' = w := by
  have hta := assertBytes1
  have HT := Lib.hid (fun c w => threeway_c op c w ho)
  have HV := Lib.hid (compare_vals a.data.toList b.data.toList)
  clear ho
  go_enter Tryz.func369, Tryz.ntmps369
  go_wp2_with (first
    | (go_at_call 364; refine (stringsCompare_c _ _ _).mono ?_; rintro e w1 ⟨rfl, rfl⟩)
    | (go_at_call 61; refine (HT.out _ _ HV.out).mono ?_; rintro e w1 ⟨rfl, rfl⟩))
  go_ret2
  exact ⟨rfl, rfl⟩
set_option maxRecDepth 100000 in
theorem stringSame_c (op : Int) (a b : ByteArray) (d : Int) (w : World) (ho : OpOk op) : Calls Tryz.prog 355 #[.string a, .int .i8 op, .iface 141 (.string b), .int .i64 d] w fun e w' => e = .returned (.tuple #[.bool (tw op (Lib.compareBytes a.data.toList b.data.toList)), .nilIface]) ∧ w' = w := by
  have hta := assertString1
  have HT := Lib.hid (fun c w => threeway_c op c w ho)
  have HV := Lib.hid (compare_vals a.data.toList b.data.toList)
  clear ho
  go_enter Tryz.func355, Tryz.ntmps355
  go_wp2_with (first
    | (go_at_call 364; refine (stringsCompare_c _ _ _).mono ?_; rintro e w1 ⟨rfl, rfl⟩)
    | (go_at_call 61; refine (HT.out _ _ HV.out).mono ?_; rintro e w1 ⟨rfl, rfl⟩))
  go_ret2
  exact ⟨rfl, rfl⟩
end Go.Proofs.YtkplnbjgkhmbcaaGreatDoor
