/- starlark: CompareDepth of an Int and a Float; math.IsInf(x, 0). · starlark: CompareDepth of an Int and a Float, both ways. -/
import Derived.Test.YtkplnbjgkhmbcaaGreatDoorM27
namespace Go.Proofs.YtkplnbjgkhmbcaaGreatDoor
open Go.RowKit Go.Shelf Go.Proofs.YtkplnbjgkhmbcaaGreatDoorW.PrintWords Go.Proofs.YtkplnbjgkhmbcaaGreatDoorW.PrintLast Go.Proofs.YtkplnbjgkhmbcaaGreatDoorW.PrintMore
set_option linter.unusedVariables false
set_option linter.unusedSimpArgs false

def finfA (b : Nat) : Bool := finf false b || finf true b
theorem abs_mask (b : Nat) (hb : b < 18446744073709551616) : bits .andNot .u64 (b : Int) 9223372036854775808 = ((b % 9223372036854775808 : Nat) : Int) := by
  have := u64_andNot_nat b 9223372036854775808 hb (by omega)
  have h2 := Nat.and_two_pow_sub_one_eq_mod b 63
  simp at this h2
  rw [h2] at this
  exact this
theorem mabs_c (b : Nat) (w : World) (hb : b < 18446744073709551616) : Calls Tryz.prog 97 #[.float .f64 b] w fun e w' => e = .returned (.float .f64 (b % 9223372036854775808)) ∧ w' = w := by
  have k1 := call_bits
  have k2 := call_float
  have k3 := abs_mask b hb
  clear hb
  go_enter Tryz.func97, Tryz.ntmps97
  go_wp2
  go_ret
  exact ⟨by simp, rfl⟩
theorem abs_dat (b : Nat) (hb : b < 18446744073709551616) : (match fdat (b % 9223372036854775808) with | .infinity s => !s | _ => false) = finfA b := by
  have hcase : b % 9223372036854775808 = b ∧ fneg b = false ∨ b % 9223372036854775808 = b ^^^ 9223372036854775808 ∧ fneg b = true := by
    by_cases h : b < 9223372036854775808
    · left; exact ⟨Nat.mod_eq_of_lt h, by simp [fneg]; omega⟩
    · right
      refine ⟨?_, by simp [fneg]; omega⟩
      have e1 : (b ^^^ 9223372036854775808) % 9223372036854775808 = b % 9223372036854775808 := by
        have := Nat.xor_mod_two_pow (a := b) (b := 9223372036854775808) (n := 63)
        simpa using this
      have e2 : (b ^^^ 9223372036854775808) / 9223372036854775808 = (b / 9223372036854775808) ^^^ 1 := by
        have := Nat.shiftRight_xor_distrib (a := b) (b := 9223372036854775808) (i := 63)
        simpa [Nat.shiftRight_eq_div_pow] using this
      rw [show b / 9223372036854775808 = 1 by omega] at e2
      have e3 : (1 : Nat) ^^^ 1 = 0 := rfl
      omega
  have hs : ∀ s, fdat b = .infinity s → s = fneg b := by
    intro s h
    rcases fcase b hb with ⟨s2, m, p, h2, _⟩ | ⟨s2, h2, hs⟩ | ⟨s2, f, h2⟩
    · rw [h] at h2; cases h2
    · rw [h] at h2; cases h2; exact hs
    · rw [h] at h2; cases h2
  unfold finfA finf
  rcases hcase with ⟨h, hn⟩ | ⟨h, hn⟩
  · rw [h]
    cases hd : fdat b with
    | infinity s => rw [hs s hd, hn]; rfl
    | number _ _ _ => rfl
    | nan _ _ => rfl
  · rw [h, (read_neg b hb).1]
    cases hd : fdat b with
    | infinity s => rw [hs s hd, hn]; rfl
    | number _ _ _ => rfl
    | nan _ _ => rfl
set_option maxRecDepth 100000 in
theorem isInf0_c (b : Nat) (w : World) (hb : b < 18446744073709551616) : Calls Tryz.prog 62 #[.float .f64 b, .int .i64 0] w fun e w' => e = .returned (.bool (finfA b)) ∧ w' = w := by
  have HH : Hid ((f64ord (b % 9223372036854775808) 9218868437227405311 == some .gt) = finfA b) := by
    refine Lib.hid ?_
    rw [above_max _ (by omega)]; exact abs_dat b hb
  have HA := Lib.hid (fun w => mabs_c b w hb)
  clear hb
  go_enter Tryz.func62, Tryz.ntmps62
  go_wp2_with (go_at_call 97; (with_reducible refine (HA.out _).mono ?_); rintro e w1 ⟨rfl, rfl⟩)
  go_ret
  exact ⟨congrArg (fun z => Ending.returned (.bool z)) HH.out, rfl⟩
theorem as122Float (v : Value) (w : World) : (Instr.typeAssert (.iface 123 v) 57 122 true).run Tryz.prog w = .ok (.tuple #[.agg #[.int .i64 0, .pointer none], .bool false]) w := by kernel_rfl
theorem as122Int (v : Value) (w : World) : (Instr.typeAssert (.iface 122 v) 57 122 true).run Tryz.prog w = .ok (.tuple #[v, .bool true]) w := by kernel_rfl
theorem as123Float (v : Value) (w : World) : (Instr.typeAssert (.iface 123 v) 57 123 true).run Tryz.prog w = .ok (.tuple #[v, .bool true]) w := by kernel_rfl
theorem ordzero (b : Nat) (s : Bool) (h : fdat b = .infinity s) : f64ord b 0 = some (if s then .lt else .gt) := by
  rw [ord_dat, h, fdat_sub 0 (by omega) rfl]
  cases s <;> rfl

set_option maxRecDepth 100000 in
theorem cdIntFloatI_c (y : Int) (p : Option Addr) (x : Int) (b : Nat) (op d : Int) (s : Bool) (w : World) (ho : OpOk op) (hd : ¬ d < 1) (hd2 : d ≤ 1000) (hb : b < 18446744073709551616) (hf : fdat b = .infinity s)
    (HS : Hid (Calls Tryz.prog 60 #[.iface 122 (.agg #[.int .i64 y, .pointer p]), .iface 123 (.float .f64 b)] w fun e w' => e = .returned (.bool false) ∧ Below w.heap.size w w')) : Calls Tryz.prog 29 #[.int .i8 op, .iface 122 (.agg #[.int .i64 y, .pointer p]), .iface 123 (.float .f64 b), .int .i64 d] w fun e w' => e = .returned (.tuple #[.bool (tw op (icmpF x b)), .nilIface]) ∧ Below w.heap.size w w' := by
  have ha1 := as122Int
  have ha2 := as123Float
  have hz : FloatKind.f64.format.order b 0 = some (if s then .lt else .gt) := ordzero b s hf
  have he : FloatKind.f64.format.order b b = some .eq := by
    have := (ord_three b b).2.2.2.1 (by rw [hf]; rfl)
    exact this
  have hc : icmpF x b = if s then 1 else -1 := by unfold icmpF; rw [hf]
  rw [hc]
  have HI : Hid (∀ w, Calls Tryz.prog 62 #[.float .f64 b, .int .i64 0] w fun e w' => e = .returned (.bool true) ∧ w' = w) := Lib.hid fun w => by
    have := isInf0_c b w hb
    rw [show finfA b = true by unfold finfA finf; rw [hf]; cases s <;> rfl] at this
    exact this
  have HT := Lib.hid (fun c w hc => threeway_c op c w ho hc)
  clear ho hb hf hc
  cases s
  all_goals
    simp only [if_true, if_false, Bool.false_eq_true, reduceIte] at hz ⊢
    go_enter Tryz.func29, Tryz.ntmps29
    go_wp2_with (first
      | (go_at_call 60; (with_reducible refine HS.out.mono ?_); rintro e w1 ⟨rfl, hb1⟩; have HB := Lib.hid hb1; clear hb1)
      | (go_at_call 62; (with_reducible refine (HI.out _).mono ?_); rintro e w2 ⟨rfl, rfl⟩)
      | (go_at_call 61; (with_reducible refine (HT.out _ _ (by decide)).mono ?_); rintro e w2 ⟨rfl, rfl⟩))
    go_ret2
    exact ⟨rfl, HB.out.alloc HB.out.size _⟩
end Go.Proofs.YtkplnbjgkhmbcaaGreatDoor

namespace Go.Proofs.YtkplnbjgkhmbcaaGreatDoor
open Go.RowKit Go.Shelf Go.Proofs.YtkplnbjgkhmbcaaGreatDoorW.PrintWords Go.Proofs.YtkplnbjgkhmbcaaGreatDoorW.PrintLast Go.Proofs.YtkplnbjgkhmbcaaGreatDoorW.PrintMore
set_option linter.unusedVariables false
set_option linter.unusedSimpArgs false

/-- Rat.Cmp of a whole number and a float's number. -/
theorem ratJoin_c (x : Int) (s : Bool) (m : Nat) (p : Int) (g1 g2 : Nat) (n1 n2 : Bool) (va vb vc vd : Value) (xs ns bs : List Int) (w : World) (h1 : RT w g1 n1 va xs vb [1]) (z1 : xs = [] → n1 = false) (e1 : bval n1 xs = x) (l1 : xs.length ≤ 1000)
    (h2 : RT w g2 n2 vc ns vd bs) (z2 : ns = [] → n2 = false) (e2 : bval n2 ns * 2 ^ (-p).toNat = smag s m * 2 ^ p.toNat * leN bs) (b2 : 0 < leN bs) (l2 : ns.length ≤ 39) (l3 : bs.length ≤ 39) (ne : bs ≠ []) (hT : Thr w) :
    (Calls Tryz.prog 64 #[.pointer (some ⟨g1, 0, none⟩), .pointer (some ⟨g2, 0, none⟩)] w fun e w' => e = .returned (.int .i64 (sgn (x * 2 ^ (-p).toNat - smag s m * 2 ^ p.toNat))) ∧ Below w.heap.size w w') ∧
    (Calls Tryz.prog 64 #[.pointer (some ⟨g2, 0, none⟩), .pointer (some ⟨g1, 0, none⟩)] w fun e w' => e = .returned (.int .i64 (- sgn (x * 2 ^ (-p).toNat - smag s m * 2 ^ p.toNat))) ∧ Below w.heap.size w w') := by
  have hj := rat_cmp x (bval n2 ns) (leN bs) (smag s m) p b2 e2
  constructor
  · have := ratCmp_c g1 g2 n1 n2 va vb vc vd xs [1] ns bs w h1 h2 z1 z2 (by simp) ne l1 (by omega) (by simp) l3 hT
    rw [leN_one, Int.mul_one, e1, hj] at this
    exact this
  · have := ratCmp_c g2 g1 n2 n1 vc vd va vb ns bs xs [1] w h2 h1 z2 z1 ne (by simp) (by omega) l1 l3 (by simp) hT
    rw [leN_one, Int.mul_one, e1, show bval n2 ns - x * leN bs = -(x * leN bs - bval n2 ns) by omega, sgn_neg, hj] at this
    exact this

set_option maxRecDepth 100000 in
theorem cdIntFloatN_c (B : Nat) (y : Int) (p : Option Addr) (x : Int) (b : Nat) (op d : Int) (s : Bool) (m : Nat) (q : Int) (w : World) (ho : OpOk op) (hd : ¬ d < 1) (hd2 : d ≤ 1000) (hb : b < 18446744073709551616) (hf : fdat b = .number s m q) (h : SIv B w (.agg #[.int .i64 y, .pointer p]) x) (hx : x.natAbs < 256 ^ 60) (hT : Thr w)
    (HS : Hid (Calls Tryz.prog 60 #[.iface 122 (.agg #[.int .i64 y, .pointer p]), .iface 123 (.float .f64 b)] w fun e w' => e = .returned (.bool false) ∧ Below w.heap.size w w')) : Calls Tryz.prog 29 #[.int .i8 op, .iface 122 (.agg #[.int .i64 y, .pointer p]), .iface 123 (.float .f64 b), .int .i64 d] w fun e w' => e = .returned (.tuple #[.bool (tw op (icmpF x b)), .nilIface]) ∧ Below w.heap.size w w' := by
  have ha1 := as122Int
  have ha2 := as123Float
  have he : FloatKind.f64.format.order b b = some .eq := by
    have := (ord_three b b).2.2.2.1 (by rw [hf]; rfl)
    exact this
  have hc : icmpF x b = sgn (x * 2 ^ (-q).toNat - smag s m * 2 ^ q.toNat) := by unfold icmpF; rw [hf]
  rw [hc]
  have HI : Hid (∀ w, Calls Tryz.prog 62 #[.float .f64 b, .int .i64 0] w fun e w' => e = .returned (.bool false) ∧ w' = w) := Lib.hid fun w => by
    have := isInf0_c b w hb
    rw [show finfA b = false by unfold finfA finf; rw [hf]; rfl] at this
    exact this
  have HT := Lib.hid (fun w => threeway_c op (sgn (x * 2 ^ (-q).toNat - smag s m * 2 ^ q.toNat)) w ho (sgn_vals _))
  have HR := Lib.hid (fun W (hb : Below w.heap.size w W) => irational_c B _ x W (h.below hb) hx)
  have HQ := Lib.hid (fun W => frational_c b W hb s m q hf)
  have HTh := Lib.hid (fun W (hb : Below w.heap.size w W) => hT.below hb)
  clear ho hb hf hc h hx hT
  go_enter Tryz.func29, Tryz.ntmps29
  go_wp2_with (first
    | (go_at_call 60; (with_reducible refine HS.out.mono ?_); rintro e w1 ⟨rfl, hb1⟩; have HB := Lib.hid hb1; clear hb1)
    | (go_at_call 62; (with_reducible refine (HI.out _).mono ?_); rintro e w2 ⟨rfl, rfl⟩)
    | (go_at_call 63; (with_reducible refine (HR.out _ (HB.out.alloc HB.out.size _)).mono ?_); rintro e w2 ⟨g1, n1, va, xs, vb, hg1, rfl, k1, k2, k3, k4, hb2⟩; have HA := Lib.hid (And.intro k1 (And.intro k2 (And.intro k3 k4))); replace HB := Lib.hid ((HB.out.alloc HB.out.size _).trans (hb2.mono (HB.out.alloc HB.out.size _).size)); clear k1 k2 k3 k4 hb2 hg1)
    | (go_at_call 65; (with_reducible refine (HQ.out _).mono ?_); rintro e w3 ⟨g2, n2, vc, ns, vd, bs, hg2, rfl, k1, k2, k3, k4, k5, k6, k7, hb3⟩; have HJ := Lib.hid (ratJoin_c x s m q g1 g2 n1 n2 va vb vc vd xs ns bs w3 (HA.out.1.below hb3) HA.out.2.1 HA.out.2.2.1 HA.out.2.2.2 k1 k2 k3 k4 k5 k6 k7 (HTh.out _ (HB.out.trans (hb3.mono HB.out.size)))); replace HB := Lib.hid (HB.out.trans (hb3.mono HB.out.size)); clear k1 k2 k3 k4 k5 k6 k7 hb3 hg2)
    | (go_at_call 64; (with_reducible refine HJ.out.1.mono ?_); rintro e w4 ⟨rfl, hb4⟩; replace HB := Lib.hid (HB.out.trans (hb4.mono HB.out.size)); clear hb4)
    | (go_at_call 61; (with_reducible refine (HT.out _).mono ?_); rintro e w2 ⟨rfl, rfl⟩))
  go_ret2
  exact ⟨rfl, HB.out⟩

set_option maxRecDepth 100000 in
theorem cdIntFloatZ_c (y : Int) (p : Option Addr) (x : Int) (b : Nat) (op d : Int) (s : Bool) (f : Nat) (w : World) (ho : OpOk op) (hd : ¬ d < 1) (hd2 : d ≤ 1000) (hf : fdat b = .nan s f)
    (HS : Hid (Calls Tryz.prog 60 #[.iface 122 (.agg #[.int .i64 y, .pointer p]), .iface 123 (.float .f64 b)] w fun e w' => e = .returned (.bool false) ∧ Below w.heap.size w w')) : Calls Tryz.prog 29 #[.int .i8 op, .iface 122 (.agg #[.int .i64 y, .pointer p]), .iface 123 (.float .f64 b), .int .i64 d] w fun e w' => e = .returned (.tuple #[.bool (tw op (icmpF x b)), .nilIface]) ∧ Below w.heap.size w w' := by
  have ha1 := as122Int
  have ha2 := as123Float
  have he : FloatKind.f64.format.order b b = none := by
    have := ((ord_three b b).2.1 (by rw [hf]; rfl)).1
    exact this
  have hc : icmpF x b = -1 := by unfold icmpF; rw [hf]
  rw [hc]
  have HT := Lib.hid (fun w => threeway_c op (-1) w ho (by decide))
  clear ho hf hc
  go_enter Tryz.func29, Tryz.ntmps29
  go_wp2_with (first
    | (go_at_call 60; (with_reducible refine HS.out.mono ?_); rintro e w1 ⟨rfl, hb1⟩; have HB := Lib.hid hb1; clear hb1)
    | (go_at_call 61; (with_reducible refine (HT.out _).mono ?_); rintro e w2 ⟨rfl, rfl⟩))
  go_ret2
  exact ⟨rfl, HB.out.alloc HB.out.size _⟩

/-- CompareDepth of an Int and a Float. -/
theorem cdIntFloat_c (B : Nat) (u : Value) (x : Int) (b : Nat) (op d : Int) (w : World) (ho : OpOk op) (hd : ¬ d < 1) (hd2 : d ≤ 1000) (hb : b < 18446744073709551616) (h : SIv B w u x) (hx : x.natAbs < 256 ^ 60) (hT : Thr w) : Calls Tryz.prog 29 #[.int .i8 op, .iface 122 u, .iface 123 (.float .f64 b), .int .i64 d] w fun e w' => e = .returned (.tuple #[.bool (tw op (icmpF x b)), .nilIface]) ∧ Below w.heap.size w w' := by
  obtain ⟨y, p, rfl⟩ := h.shape
  have HS : Hid (Calls Tryz.prog 60 #[.iface 122 (.agg #[.int .i64 y, .pointer p]), .iface 123 (.float .f64 b)] w fun e w' => e = .returned (.bool false) ∧ Below w.heap.size w w') := Lib.hid (sameType_c B 0 _ _ (Sca.int x) (Sca.float b) w ⟨_, rfl, h⟩ rfl)
  rcases fcase b hb with ⟨s, m, q, hf, _⟩ | ⟨s, hf, _⟩ | ⟨s, f, hf⟩
  · exact cdIntFloatN_c B y p x b op d s m q w ho hd hd2 hb hf h hx hT HS
  · exact cdIntFloatI_c y p x b op d s w ho hd hd2 hb hf HS
  · exact cdIntFloatZ_c y p x b op d s f w ho hd hd2 hf HS
end Go.Proofs.YtkplnbjgkhmbcaaGreatDoor
