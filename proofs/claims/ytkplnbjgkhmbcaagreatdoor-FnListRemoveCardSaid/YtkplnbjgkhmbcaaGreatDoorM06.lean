/- Plain Lean: what the bits of a float64 stand for, and how they are compared. · The walks of math.IsNaN, math.IsInf, spec.Fl, spec.floatParts, spec.CmpFloats. · The walks of spec.Whole and spec.Int's CmpFloat. · The walk of spec.Int's CmpFloat. -/
import Derived.Test.YtkplnbjgkhmbcaaGreatDoorM01
import Derived.Test.YtkplnbjgkhmbcaaGreatDoorM05
import Derived.Laws.FloatArith
import Derived.Laws.Externs
import Derived.WalkLawsBesides
import Derived.Laws.BitsAllLaws
namespace Go.Proofs.YtkplnbjgkhmbcaaGreatDoor

/-- What bits stand for. -/
def fdat (b : Nat) : Ieee.Datum := Ieee.double.read b
def fneg (b : Nat) : Bool := decide (9223372036854775808 ≤ b)
theorem sw : Ieee.double.signWeight = 9223372036854775808 := by decide
theorem bn : Ieee.double.binade = 4503599627370496 := by decide
theorem ir : Ieee.double.infRung = 9218868437227405312 := by decide
theorem lp : Ieee.double.leastPlace = -1074 := by decide
theorem neg_eq (b : Nat) (hb : b < 18446744073709551616) : (b / 9223372036854775808 % 2 == 1) = fneg b := by
  unfold fneg
  rw [Bool.eq_iff_iff]
  simp
  omega
theorem fdat_sub (b : Nat) (hb : b < 18446744073709551616) (he : b / 4503599627370496 % 2048 = 0) : fdat b = .number (fneg b) (b % 4503599627370496) (-1074) := by
  unfold fdat Ieee.Format.read
  simp only [sw, bn, ir, lp]
  rw [if_pos (by omega), neg_eq b hb]
  congr 1
  omega
theorem fdat_norm (b : Nat) (hb : b < 18446744073709551616) (he : b / 4503599627370496 % 2048 ≠ 0) (he2 : b / 4503599627370496 % 2048 ≠ 2047) :
    fdat b = .number (fneg b) (4503599627370496 + b % 4503599627370496) ((b / 4503599627370496 % 2048 : Nat) - 1075) := by
  unfold fdat Ieee.Format.read
  simp only [sw, bn, ir, lp]
  rw [if_neg (by omega), if_pos (by omega), neg_eq b hb]
  congr 1
  · omega
  · omega
theorem fdat_inf (b : Nat) (hb : b < 18446744073709551616) (he : b / 4503599627370496 % 2048 = 2047) (hf : b % 4503599627370496 = 0) : fdat b = .infinity (fneg b) := by
  unfold fdat Ieee.Format.read
  simp only [sw, bn, ir, lp]
  rw [if_neg (by omega), if_neg (by omega), if_pos (by omega), neg_eq b hb]
theorem fdat_nan (b : Nat) (hb : b < 18446744073709551616) (he : b / 4503599627370496 % 2048 = 2047) (hf : b % 4503599627370496 ≠ 0) : ∃ f, fdat b = .nan (fneg b) f := by
  unfold fdat Ieee.Format.read
  simp only [sw, bn, ir, lp]
  rw [if_neg (by omega), if_neg (by omega), if_neg (by omega), neg_eq b hb]
  exact ⟨_, rfl⟩
/-- The four cases. -/
inductive FCase (b : Nat) : Prop where
  | num (s : Bool) (m : Nat) (p : Int) (h : fdat b = .number s m p) (hs : s = fneg b) (hm : m < 9007199254740992) (hp : -1074 ≤ p) (hp2 : p ≤ 971) (h0 : p = -1074 ∨ 4503599627370496 ≤ m)
  | inf (s : Bool) (h : fdat b = .infinity s) (hs : s = fneg b)
  | nan (s : Bool) (f : Nat) (h : fdat b = .nan s f)
theorem fcase (b : Nat) (hb : b < 18446744073709551616) : FCase b := by
  by_cases he : b / 4503599627370496 % 2048 = 0
  · exact .num _ _ _ (fdat_sub b hb he) rfl (by omega) (by omega) (by omega) (Or.inl rfl)
  · by_cases he2 : b / 4503599627370496 % 2048 = 2047
    · by_cases hf : b % 4503599627370496 = 0
      · exact .inf _ (fdat_inf b hb he2 hf) rfl
      · obtain ⟨f, h⟩ := fdat_nan b hb he2 hf
        exact .nan _ f h
    · exact .num _ _ _ (fdat_norm b hb he he2) rfl (by omega) (by omega) (by omega) (Or.inr (by omega))

/-- A sign and a magnitude. -/
def smag (s : Bool) (m : Nat) : Int := if s then -(m : Int) else m
theorem signed_eq (s : Bool) (m u : Nat) : Ieee.signed s m u = smag s m * 2 ^ u := by
  unfold Ieee.signed smag
  rw [Nat.shiftLeft_eq]
  cases s
  · simp
  · simp [Int.neg_mul]
def f64ord (a b : Nat) : Option Ordering := Ieee.double.order a b
theorem ord_def (a b : Nat) : FloatKind.f64.format.order a b = f64ord a b := rfl
theorem ord_dat (a b : Nat) : f64ord a b = (fdat a).order (fdat b) := rfl
theorem cmp_gt_iff (x y : Int) : (compare x y == .gt) = decide (y < x) := by
  rw [Bool.eq_iff_iff]
  simp only [compare, compareOfLessAndEq]
  split
  · simp; omega
  · split
    · simp; omega
    · simp; omega
theorem sgn_of_pos {t : Int} (h : 0 < t) : sgn t = 1 := by unfold sgn; rw [if_neg (by omega), if_neg (by omega)]
theorem sgn_of_neg {t : Int} (h : t < 0) : sgn t = -1 := by unfold sgn; rw [if_pos h]
theorem sgn_zsub (s : Bool) (m : Nat) (P : Int) (h : m ≠ 0) : (if s then (1 : Int) else -1) = sgn (0 * P - smag s m) := by
  rw [Int.zero_mul, Int.zero_sub]
  cases s
  · exact (sgn_of_neg (show -(m : Int) < 0 from by omega)).symm
  · exact (sgn_of_pos (show 0 < -(-(m : Int)) from by omega)).symm
theorem pow2_ge (n : Nat) : (1 : Int) ≤ 2 ^ n := by
  have : (0 : Int) < 2 ^ n := Int.pow_pos (by omega)
  omega
theorem fmax_dat : fdat 9218868437227405311 = .number false 9007199254740991 971 := by
  rw [fdat_norm _ (by omega) (by omega) (by omega)]
  decide
/-- Above the greatest finite float there is the infinity alone. -/
theorem above_max (b : Nat) (hb : b < 18446744073709551616) : (f64ord b 9218868437227405311 == some .gt) = (match fdat b with | .infinity s => !s | _ => false) := by
  rw [ord_dat, fmax_dat]
  rcases fcase b hb with ⟨s, m, p, h, hs, hm, hp, hp2, h0⟩ | ⟨s, h, hs⟩ | ⟨s, f, h⟩
  · rw [h]
    show ((some (compare (Ieee.signed s m (p - min p 971).toNat) (Ieee.signed false 9007199254740991 (971 - min p 971).toNat)) == some Ordering.gt)) = false
    rw [Option.some_beq_some, cmp_gt_iff, signed_eq, signed_eq, Int.min_eq_left hp2, Int.sub_self]
    have h1 := pow2_ge (971 - p).toNat
    have h2 : smag false 9007199254740991 * 1 ≤ smag false 9007199254740991 * 2 ^ (971 - p).toNat := Int.mul_le_mul_of_nonneg_left h1 (by decide)
    have h3 : smag false 9007199254740991 = 9007199254740991 := rfl
    have h4 : smag s m ≤ 9007199254740991 := by unfold smag; split <;> omega
    rw [h3] at h2 ⊢
    simp
    omega
  · rw [h]
    cases s <;> rfl
  · rw [h]; rfl

/-- An integer against a float: -1, 0, 1; what is no number is above all. -/
def icmpF (x : Int) (b : Nat) : Int :=
  match fdat b with
  | .nan _ _ => -1
  | .infinity s => if s then 1 else -1
  | .number s m p => sgn (x * 2 ^ (-p).toNat - smag s m * 2 ^ p.toNat)
/-- Two floats, in the language's order. -/
def fcmpO (o : Option Ordering) (p q : Bool) : Int :=
  match o with
  | some .lt => -1
  | some .eq => 0
  | some .gt => 1
  | none => if p then (if q then 0 else 1) else -1
def fcmpF (a b : Nat) : Int := fcmpO (f64ord a b) (fdat a).isNaN (fdat b).isNaN
theorem sgn_mul_pos (x y : Int) (h : 0 < y) : sgn (x * y) = sgn x := by
  unfold sgn
  by_cases h1 : x < 0
  · rw [if_pos h1, if_pos (Int.mul_neg_of_neg_of_pos h1 h)]
  · by_cases h2 : x = 0
    · rw [h2]; simp
    · have h3 : 0 < x * y := Int.mul_pos (by omega) h
      rw [if_neg h1, if_neg h2, if_neg (by omega), if_neg (by omega)]

/-- CmpFloat's reckoning. -/
theorem cmp_whole (x : Int) (s : Bool) (m : Nat) (p : Int) (hp : 0 ≤ p) : sgn (x - smag s m * 2 ^ p.toNat) = sgn (x * 2 ^ (-p).toNat - smag s m * 2 ^ p.toNat) := by
  rw [show (-p).toNat = 0 from by omega]
  simp
theorem cmp_small (x : Int) (s : Bool) (m : Nat) (p : Int) (hp : p < -63) (hm : m < 9007199254740992) :
    (if sgn (x - 0) ≠ 0 ∨ m = 0 then sgn (x - 0) else if s then 1 else -1) = sgn (x * 2 ^ (-p).toNat - smag s m * 2 ^ p.toNat) := by
  rw [show p.toNat = 0 from by omega, Int.sub_zero, Int.pow_zero, Int.mul_one]
  have h64 : (18446744073709551616 : Int) ≤ 2 ^ (-p).toNat := by
    obtain ⟨c, hc⟩ : ∃ c, (-p).toNat = 64 + c := ⟨(-p).toNat - 64, by omega⟩
    rw [hc, Int.pow_add]
    have := pow2_ge c
    have h2 : (2 : Int) ^ 64 = 18446744073709551616 := by decide
    rw [h2]
    omega
  obtain ⟨P, hP⟩ : ∃ P : Int, 2 ^ (-p).toNat = P := ⟨_, rfl⟩
  rw [hP] at h64 ⊢
  have hs : -9007199254740992 < smag s m ∧ smag s m < 9007199254740992 := by unfold smag; split <;> omega
  by_cases h : x = 0
  · subst h
    by_cases hm0 : m = 0
    · subst hm0
      have e : smag s 0 = 0 := by unfold smag; split <;> rfl
      rw [if_pos (Or.inr rfl), e]; simp
    · rw [if_neg (by simp [sgn, hm0])]
      exact sgn_zsub s m P hm0
  · rw [if_pos (Or.inl (by rw [Ne, sgn_eq]; exact h))]
    rcases Int.lt_or_gt_of_ne h with h1 | h1
    · have h2 : x * P ≤ -1 * P := Int.mul_le_mul_of_nonneg_right (by omega) (by omega)
      unfold sgn
      rw [if_pos h1, if_pos (by omega)]
    · have h2 : 1 * P ≤ x * P := Int.mul_le_mul_of_nonneg_right (by omega) (by omega)
      unfold sgn
      rw [if_neg (by omega), if_neg (by omega), if_neg (by omega), if_neg (by omega)]
theorem cmp_cut (x : Int) (s : Bool) (m : Nat) (p : Int) (hp : p < 0) :
    (if sgn (x - smag s (m / 2 ^ (-p).toNat)) ≠ 0 ∨ m % 2 ^ (-p).toNat = 0 then sgn (x - smag s (m / 2 ^ (-p).toNat)) else if s then 1 else -1) = sgn (x * 2 ^ (-p).toNat - smag s m * 2 ^ p.toNat) := by
  rw [show p.toNat = 0 from by omega, Int.pow_zero, Int.mul_one]
  obtain ⟨P, hP⟩ : ∃ P : Nat, 2 ^ (-p).toNat = P := ⟨_, rfl⟩
  have hPi : (2 : Int) ^ (-p).toNat = P := by rw [← hP]; simp
  have hP0 : 0 < P := by rw [← hP]; exact Nat.two_pow_pos _
  rw [hP, hPi]
  obtain ⟨q, hq⟩ : ∃ q, m / P = q := ⟨_, rfl⟩
  obtain ⟨r, hr⟩ : ∃ r, m % P = r := ⟨_, rfl⟩
  have hqr : m = P * q + r := by rw [← hq, ← hr]; exact (Nat.div_add_mod m P).symm
  have hrP : r < P := by rw [← hr]; exact Nat.mod_lt _ hP0
  rw [hq, hr]
  have hm : (m : Int) = P * q + r := by rw [hqr]; simp
  have key : ∀ y t : Int, sgn (y * P - t) = (if sgn y ≠ 0 ∨ t = 0 then sgn y else if t < 0 then 1 else -1) → True := fun _ _ _ => trivial
  have e : x * P - smag s m = (x - smag s q) * P - smag s r := by
    unfold smag
    cases s
    · simp only [Bool.false_eq_true, if_false]
      rw [hm, Int.sub_mul, Int.mul_comm (q : Int)]; omega
    · simp only [if_true]
      rw [hm, Int.sub_mul, Int.neg_mul, Int.mul_comm (q : Int)]; omega
  rw [e]
  obtain ⟨y, hy⟩ : ∃ y, x - smag s q = y := ⟨_, rfl⟩
  rw [hy]
  have hs : -(P : Int) < smag s r ∧ smag s r < P := by unfold smag; split <;> omega
  by_cases hy0 : y = 0
  · subst hy0
    by_cases hr0 : r = 0
    · subst hr0
      have e0 : smag s 0 = 0 := by unfold smag; split <;> rfl
      rw [if_pos (Or.inr rfl), e0]; simp
    · rw [if_neg (by simp [sgn, hr0])]
      exact sgn_zsub s r P hr0
  · rw [if_pos (Or.inl (by rw [Ne, sgn_eq]; exact hy0))]
    rcases Int.lt_or_gt_of_ne hy0 with h1 | h1
    · have h2 : y * P ≤ -1 * P := Int.mul_le_mul_of_nonneg_right (by omega) (by omega)
      unfold sgn
      rw [if_pos h1, if_pos (by omega)]
    · have h2 : 1 * (P : Int) ≤ y * P := Int.mul_le_mul_of_nonneg_right (by omega) (by omega)
      unfold sgn
      rw [if_neg (by omega), if_neg (by omega), if_neg (by omega), if_neg (by omega)]
end Go.Proofs.YtkplnbjgkhmbcaaGreatDoor

namespace Go.Proofs.YtkplnbjgkhmbcaaGreatDoor
open Go.RowKit Go.Proofs.YtkplnbjgkhmbcaaGreatDoorW.PrintWords Go.Proofs.YtkplnbjgkhmbcaaGreatDoorW.PrintLast Go.Proofs.YtkplnbjgkhmbcaaGreatDoorW.PrintMore Go.Proofs.YtkplnbjgkhmbcaaGreatDoor.PFnCompare Go.Proofs.YtkplnbjgkhmbcaaGreatDoor.PCmp Go.Proofs.YtkplnbjgkhmbcaaGreatDoor.PbytesOf Go.Proofs.YtkplnbjgkhmbcaaGreatDoor.Pcmp
set_option linter.unusedVariables false
set_option linter.unusedSimpArgs false

theorem call_bits (b : Nat) (w : World) : (callFunc 110 #[.float .f64 b]).run Tryz.prog w = .ok (.value (.int .u64 b)) w :=
  (run_callFunc_extern (e := Extern.MathFloatBits.float64bits) Tryz.func110 (by kernel_rfl) (by kernel_rfl) (by kernel_rfl) (by kernel_rfl) _ w).trans rfl
theorem call_float (n : Int) (w : World) : (callFunc 79 #[.int .u64 n]).run Tryz.prog w = .ok (.value (.float .f64 n.toNat)) w :=
  (run_callFunc_extern (e := Extern.MathFloatBits.float64frombits) Tryz.func79 (by kernel_rfl) (by kernel_rfl) (by kernel_rfl) (by kernel_rfl) _ w).trans rfl

theorem ord_self (b : Nat) : (f64ord b b != some .eq) = (fdat b).isNaN := by
  rw [ord_dat]
  cases fdat b with
  | number s m p =>
    show (some (compare _ _) != some Ordering.eq) = false
    simp
  | infinity s =>
    show (some (compare _ _) != some Ordering.eq) = false
    simp
  | nan s f => rfl

set_option maxRecDepth 100000 in
theorem isNaN_c (b : Nat) (w : World) : Calls Tryz.prog 43 #[.float .f64 b] w fun e w' => e = .returned (.bool (fdat b).isNaN) ∧ w' = w := by
  go_enter Tryz.func43, Tryz.ntmps43
  go_wp2
  go_ret
  exact ⟨congrArg (fun z => Ending.returned (.bool z)) (ord_self b), rfl⟩

def finf (s : Bool) (b : Nat) : Bool := match fdat b with | .infinity t => t == s | _ => false
theorem read_neg (b : Nat) (hb : b < 18446744073709551616) : fdat (b ^^^ 9223372036854775808) = (fdat b).opposite ∧ b ^^^ 9223372036854775808 < 18446744073709551616 := by
  have e1 : (b ^^^ 9223372036854775808) % 9223372036854775808 = b % 9223372036854775808 := by
    have := Nat.xor_mod_two_pow (a := b) (b := 9223372036854775808) (n := 63)
    simpa using this
  have e2 : (b ^^^ 9223372036854775808) / 9223372036854775808 = (b / 9223372036854775808) ^^^ 1 := by
    have := Nat.shiftRight_xor_distrib (a := b) (b := 9223372036854775808) (i := 63)
    simpa [Nat.shiftRight_eq_div_pow] using this
  have h01 : b / 9223372036854775808 = 0 ∨ b / 9223372036854775808 = 1 := by omega
  have e3 : (b ^^^ 9223372036854775808) / 9223372036854775808 = 1 - b / 9223372036854775808 := by
    rw [e2]
    rcases h01 with h | h <;> rw [h] <;> rfl
  refine ⟨?_, by omega⟩
  unfold fdat Ieee.Format.read
  simp only [sw, bn, ir, lp]
  rw [e1, e3]
  have e4 : ((1 - b / 9223372036854775808) % 2 == 1) = !(b / 9223372036854775808 % 2 == 1) := by
    rcases h01 with h | h <;> rw [h] <;> rfl
  rw [e4]
  split
  · rfl
  · split
    · rfl
    · split <;> rfl

set_option maxRecDepth 100000 in
theorem isInfP_c (b : Nat) (w : World) (hb : b < 18446744073709551616) : Calls Tryz.prog 62 #[.float .f64 b, .int .i64 1] w fun e w' => e = .returned (.bool (finf false b)) ∧ w' = w := by
  have H : Hid ((f64ord b 9218868437227405311 == some .gt) = finf false b) := by
    refine Lib.hid ?_
    rw [above_max b hb]
    unfold finf
    cases fdat b with
    | infinity s => cases s <;> rfl
    | number _ _ _ => rfl
    | nan _ _ => rfl
  clear hb
  go_enter Tryz.func62, Tryz.ntmps62
  go_wp2
  go_ret
  exact ⟨congrArg (fun z => Ending.returned (.bool z)) H.out, rfl⟩
set_option maxRecDepth 100000 in
theorem isInfN_c (b : Nat) (w : World) (hb : b < 18446744073709551616) : Calls Tryz.prog 62 #[.float .f64 b, .int .i64 (-1)] w fun e w' => e = .returned (.bool (finf true b)) ∧ w' = w := by
  have H : Hid ((f64ord (Op.negFloat .f64 b) 9218868437227405311 == some .gt) = finf true b) := by
    refine Lib.hid ?_
    obtain ⟨h1, h2⟩ := read_neg b hb
    have e : Op.negFloat .f64 b = b ^^^ 9223372036854775808 := rfl
    rw [e, above_max _ h2, h1]
    unfold finf
    cases fdat b with
    | infinity s => cases s <;> rfl
    | number _ _ _ => rfl
    | nan _ _ => rfl
  clear hb
  have hneg : Op.unary .neg (.float .f64 b) = pure (.float .f64 (Op.negFloat .f64 b)) := rfl
  go_enter Tryz.func62, Tryz.ntmps62
  go_wp2
  go_ret
  exact ⟨congrArg (fun z => Ending.returned (.bool z)) H.out, rfl⟩

set_option maxRecDepth 100000 in
theorem fl_c (k bits : Int) (n : Bool) (txt : ByteArray) (A2 A5 : Option Addr) (n2 c2 n5 c5 : Nat) (w : World) :
    Calls Tryz.prog 44 #[.agg #[.int .i64 k, .bool n, .slice A2 n2 c2, .int .u64 bits, .string txt, .slice A5 n5 c5]] w fun e w' => e = .returned (.float .f64 bits.toNat) ∧ Below w.heap.size w w' := by
  have hc := call_float bits
  go_enter Tryz.func44, Tryz.ntmps44
  go_wp2
  exact bodyPost_ret (v := .float .f64 bits.toNat) (by simp [results, Tryz.results44, go_sem]) rfl ⟨rfl, (Below.refl _ _).alloc (Nat.le_refl _) _⟩

set_option maxRecDepth 100000 in
theorem cmpFloats_c (a b : Nat) (w : World) : Calls Tryz.prog 68 #[.float .f64 a, .float .f64 b] w fun e w' => e = .returned (.int .i64 (fcmpF a b)) ∧ w' = w := by
  have hn : ∀ x, (fdat x).isNaN = true → f64ord a b = none ∨ ¬ (x = a ∨ x = b) := by
    intro x hx
    by_cases h : x = a ∨ x = b
    · left
      rw [ord_dat]
      rcases h with rfl | rfl
      · cases h : fdat x <;> simp [h, Ieee.Datum.isNaN] at hx; rfl
      · cases h : fdat x <;> simp [h, Ieee.Datum.isNaN] at hx
        cases fdat a <;> rfl
    · exact Or.inr h
  have hno : f64ord a b = none → (fdat a).isNaN = true ∨ (fdat b).isNaN = true := by
    intro h
    rw [ord_dat] at h
    cases ha : fdat a <;> cases hb : fdat b <;> rw [ha, hb] at h <;> simp [Ieee.Datum.order, Ieee.Datum.isNaN] at h ⊢
  obtain ⟨p, hp⟩ : ∃ p, (fdat a).isNaN = p := ⟨_, rfl⟩
  obtain ⟨q, hq⟩ : ∃ q, (fdat b).isNaN = q := ⟨_, rfl⟩
  have HA := Lib.hid (fun w => isNaN_c a w)
  have HB := Lib.hid (fun w => isNaN_c b w)
  rw [hp] at HA
  rw [hq] at HB
  have h1 := hn a
  have h2 := hn b
  rw [hp] at h1 hno
  rw [hq] at h2 hno
  obtain ⟨o, ho⟩ : ∃ o, f64ord a b = o := ⟨_, rfl⟩
  have HF : Hid (fcmpF a b = fcmpO o p q) := by
    refine Lib.hid ?_
    unfold fcmpF
    rw [ho, hp, hq]
  have hod : FloatKind.f64.format.order a b = o := ho
  rw [ho] at h1 h2 hno
  rw [HF.out]
  clear HF hn hp hq ho
  cases p <;> cases q
  all_goals
    simp at h1 h2 hno
  · rcases o with _ | o
    · exact absurd rfl hno
    · clear h1 h2 hno
      cases o
      all_goals
        go_enter Tryz.func68, Tryz.ntmps68
        go_wp2_with (go_at_call 43; first | (refine (HA.out _).mono ?_; rintro e w' ⟨rfl, rfl⟩) | (refine (HB.out _).mono ?_; rintro e w' ⟨rfl, rfl⟩))
        go_ret
        exact ⟨rfl, rfl⟩
  all_goals
    obtain rfl : o = none := by first | exact h1 | exact h2
    clear h1 h2 hno
    go_enter Tryz.func68, Tryz.ntmps68
    go_wp2_with (go_at_call 43; first | (refine (HA.out _).mono ?_; rintro e w' ⟨rfl, rfl⟩) | (refine (HB.out _).mono ?_; rintro e w' ⟨rfl, rfl⟩))
    go_ret
    exact ⟨rfl, rfl⟩

/-- What floatParts tells. -/
def partM (b : Nat) : Nat := if b / 4503599627370496 % 2048 = 0 then b % 4503599627370496 else 4503599627370496 + b % 4503599627370496
def partP (b : Nat) : Int := if b / 4503599627370496 % 2048 = 0 then -1074 else (b / 4503599627370496 % 2048 : Nat) - 1075
theorem part_num (b : Nat) (s : Bool) (m : Nat) (p : Int) (hb : b < 18446744073709551616) (h : fdat b = .number s m p) : s = fneg b ∧ m = partM b ∧ p = partP b := by
  unfold partM partP
  by_cases he : b / 4503599627370496 % 2048 = 0
  · rw [fdat_sub b hb he] at h
    simp only [Ieee.Datum.number.injEq] at h
    rw [if_pos he, if_pos he]
    exact ⟨h.1.symm, h.2.1.symm, h.2.2.symm⟩
  · by_cases he2 : b / 4503599627370496 % 2048 = 2047
    · by_cases hf : b % 4503599627370496 = 0
      · rw [fdat_inf b hb he2 hf] at h; cases h
      · obtain ⟨f, hn⟩ := fdat_nan b hb he2 hf
        rw [hn] at h; cases h
    · rw [fdat_norm b hb he he2] at h
      simp only [Ieee.Datum.number.injEq] at h
      rw [if_neg he, if_neg he]
      exact ⟨h.1.symm, h.2.1.symm, h.2.2.symm⟩

theorem and_mask (b n : Nat) (hb : b < 18446744073709551616) (hn : n < 64) : Go.bits .and .u64 (b : Int) ((2 ^ n - 1 : Nat) : Int) = ((b % 2 ^ n : Nat) : Int) := by
  have h : 2 ^ n ≤ 2 ^ 63 := Nat.pow_le_pow_right (by omega) (by omega)
  rw [u64_and_nat b (2 ^ n - 1) hb (by omega), Nat.and_two_pow_sub_one_eq_mod]
theorem or_high (f n : Nat) (hf : f < 2 ^ n) (hn : n < 64) : Go.bits .or .u64 (f : Int) ((2 ^ n : Nat) : Int) = ((2 ^ n + f : Nat) : Int) := by
  have h : 2 ^ n ≤ 2 ^ 63 := Nat.pow_le_pow_right (by omega) (by omega)
  rw [u64_or_nat f (2 ^ n) (by omega) (by omega), Nat.or_comm]
  have := Nat.two_pow_add_eq_or_of_lt hf 1
  rw [Nat.mul_one] at this
  rw [this]

set_option maxRecDepth 100000 in
set_option maxHeartbeats 1000000 in
theorem floatParts_c (b : Nat) (w : World) (hb : b < 18446744073709551616) :
    Calls Tryz.prog 142 #[.float .f64 b] w fun e w' => e = .returned (.tuple #[.bool (fneg b), .int .u64 (partM b), .int .i64 (partP b)]) ∧ w' = w := by
  have hc := call_bits b
  have e1 : Go.bits .and .u64 ((b : Int) / 4503599627370496) 2047 = ((b / 4503599627370496 % 2048 : Nat) : Int) := by
    have := and_mask (b / 4503599627370496) 11 (by omega) (by omega)
    exact this
  have e2 : Go.bits .and .u64 (b : Int) 4503599627370495 = ((b % 4503599627370496 : Nat) : Int) := and_mask b 52 hb (by omega)
  have e3 : Go.bits .or .u64 ((b % 4503599627370496 : Nat) : Int) 4503599627370496 = ((4503599627370496 + b % 4503599627370496 : Nat) : Int) := or_high (b % 4503599627370496) 52 (by omega) (by omega)
  have HN : Hid (((b : Int) / 9223372036854775808 == 1) = fneg b) := by
    refine Lib.hid ?_
    unfold fneg
    rw [Bool.eq_iff_iff]
    simp
    omega
  have HM : Hid (partM b = if b / 4503599627370496 % 2048 = 0 then b % 4503599627370496 else 4503599627370496 + b % 4503599627370496) := rfl
  have HP : Hid (partP b = if b / 4503599627370496 % 2048 = 0 then (-1074 : Int) else ((b / 4503599627370496 % 2048 : Nat) : Int) - 1075) := rfl
  obtain ⟨e, he⟩ : ∃ e, b / 4503599627370496 % 2048 = e := ⟨_, rfl⟩
  obtain ⟨f, hf⟩ : ∃ f, b % 4503599627370496 = f := ⟨_, rfl⟩
  have he9 : e < 2048 := by omega
  have hf9 : f < 4503599627370496 := by omega
  rw [he, hf] at HM
  rw [he] at HP
  rw [he] at e1
  rw [hf] at e2 e3
  have e3' : Go.bits .or .u64 (f : Int) 4503599627370496 = 4503599627370496 + (f : Int) := e3.trans (Int.natCast_add _ _)
  clear e3
  obtain ⟨M, hM⟩ : ∃ M, partM b = M := ⟨_, rfl⟩
  obtain ⟨P, hP⟩ : ∃ P, partP b = P := ⟨_, rfl⟩
  rw [hM] at HM ⊢
  rw [hP] at HP ⊢
  clear he hf hM hP hb
  by_cases h0 : e = 0
  · subst h0
    go_enter Tryz.func142, Tryz.ntmps142
    go_wp2
    refine bodyPost_ret (v := .tuple #[.bool ((b : Int) / 9223372036854775808 == 1), .int .u64 f, .int .i64 (-1074)]) (by simp [results, Tryz.results142, go_sem]) rfl ⟨?_, rfl⟩
    rw [HN.out, HM.out, HP.out]; rfl
  · have hbz : ((e : Int) == 0) = false := by simp; omega
    go_enter Tryz.func142, Tryz.ntmps142
    go_wp2
    refine bodyPost_ret (v := .tuple #[.bool ((b : Int) / 9223372036854775808 == 1), .int .u64 (4503599627370496 + f), .int .i64 ((e : Int) - 1075)]) (by simp [results, Tryz.results142, go_sem]) rfl ⟨?_, rfl⟩
    rw [HN.out, HM.out, HP.out, if_neg h0, if_neg h0]
    rfl
end Go.Proofs.YtkplnbjgkhmbcaaGreatDoor

namespace Go.Proofs.YtkplnbjgkhmbcaaGreatDoor
open Go.RowKit Go.Proofs.YtkplnbjgkhmbcaaGreatDoorW.PrintWords Go.Proofs.YtkplnbjgkhmbcaaGreatDoorW.PrintLast Go.Proofs.YtkplnbjgkhmbcaaGreatDoorW.PrintMore Go.Proofs.YtkplnbjgkhmbcaaGreatDoor.PFnCompare Go.Proofs.YtkplnbjgkhmbcaaGreatDoor.PCmp Go.Proofs.YtkplnbjgkhmbcaaGreatDoor.PbytesOf Go.Proofs.YtkplnbjgkhmbcaaGreatDoor.Pcmp
set_option linter.unusedVariables false
set_option linter.unusedSimpArgs false

theorem two_drop (k : Nat) (h : k < 64) : (2 : Int) ^ k ≤ 9223372036854775808 := by
  have : 2 ^ k ≤ 2 ^ 63 := Nat.pow_le_pow_right (by omega) (by omega)
  have h := Int.ofNat_le.2 this
  simpa using h

/-- What Whole tells of a finite float. -/
def Whl (s : Bool) (m : Nat) (p : Int) (x : Int) (all : Bool) : Prop :=
  (0 ≤ p → x = smag s m * 2 ^ p.toNat ∧ all = true) ∧ (p < -63 → x = 0 ∧ all = (m == 0)) ∧ (-63 ≤ p → p < 0 → x = smag s (m / 2 ^ (-p).toNat) ∧ all = (m % 2 ^ (-p).toNat == 0))

set_option maxRecDepth 100000 in
set_option maxHeartbeats 2000000 in
theorem whole2_c (b : Nat) (w : World) (hb : b < 18446744073709551616) (s : Bool) (m : Nat) (p : Int) (hd : fdat b = .number s m p) :
    Calls Tryz.prog 106 #[.float .f64 b] w fun e w' => ∃ A c n l all, e = .returned (.tuple #[.agg #[.bool n, .slice A l.length c], .bool all]) ∧ Sl .u8 w.heap.size w' (.slice A l.length c) l ∧ Good n l ∧ Whl s m p (val n l) all ∧ l.length ≤ 200 ∧ Below w.heap.size w w' := by
  obtain ⟨e1, e2, e3⟩ := part_num b s m p hb hd
  have hm : m < 9007199254740992 ∧ -1074 ≤ p ∧ p ≤ 971 := by
    rcases fcase b hb with ⟨s', m', p', h, hs, hm, hp, hp2, h0⟩ | ⟨s', h, hs⟩ | ⟨s', f, h⟩
    · rw [hd] at h
      simp only [Ieee.Datum.number.injEq] at h
      obtain ⟨rfl, rfl, rfl⟩ := h
      exact ⟨hm, hp, hp2⟩
    · rw [hd] at h; cases h
    · rw [hd] at h; cases h
  have HP := Lib.hid (fun w => floatParts_c b w hb)
  rw [← e1, ← e2, ← e3] at HP
  clear e1 e2 e3 hd hb
  obtain ⟨hm1, hm2, hm3⟩ := hm
  have h8 := bytes8_bytes m (by omega)
  have h8n := bytes8_num m (by omega) (by omega)
  have hl8 : (bytes8 m).length = 8 := rfl
  have HG := Lib.hid (good_of s (bytes8 m) h8 (by rw [hl8]; omega))
  have HV := Lib.hid ((val_of s (bytes8 m) h8).trans (show val s (bytes8 m) = smag s m from by unfold val smag; rw [h8n]))
  have hcl := cutL_length (bytes8 m)
  rw [hl8] at hcl
  have HC := Lib.hid hcl
  clear h8 h8n hcl
  obtain ⟨W, hW⟩ : ∃ W, W = w.alloc (.cells #[.bool false, .slice none 0 0] 54) := ⟨_, rfl⟩
  have HK : Hid (W.heap[w.heap.size]? = some (.cells #[.bool false, .slice none 0 0] 54 (0, 0))) := by rw [hW]; exact blk_new _ _
  have HL : Hid (Below w.heap.size w W) := by rw [hW]; exact (Below.refl _ _).alloc (Nat.le_refl _) _
  have HZ : Hid (W.heap.size = w.heap.size + 1) := by rw [hW]; refine Lib.hid ?_; simp
  have HO : Hid (∀ (u : Int) (W : World), W.heap[w.heap.size]? = some (.cells #[.bool false, .slice none 0 0] 54 (0, 0)) → Below w.heap.size w W → Calls Tryz.prog 127 #[.int .u64 u] W fun e w1 => ∃ A1 c1, e = .returned (.slice A1 8 c1) ∧ Sl .u8 W.heap.size w1 (.slice A1 8 c1) (bytes8 u) ∧ w1.heap[w.heap.size]? = some (.cells #[.bool false, .slice none 0 0] 54 (0, 0)) ∧ Below w.heap.size w w1) := by
    intro u W hk hl
    refine (bytesOf_c u W).mono ?_
    rintro e w1 ⟨v1, rfl, hs, hb⟩
    obtain ⟨A1, c1, rfl, _⟩ := hs.c
    exact ⟨A1, c1, rfl, hs, blk_below hk hb, hl.trans (hb.mono hl.size)⟩
  have HOf : Hid (∀ (neg : Bool) (l : List Int) (A1 : Option Addr) (c1 B : Nat) (W : World), Sl .u8 B W (.slice A1 8 c1) l → l.length = 8 → W.heap[w.heap.size]? = some (.cells #[.bool false, .slice none 0 0] 54 (0, 0)) → Below w.heap.size w W → Calls Tryz.prog 24 #[.bool neg, .slice A1 8 c1] W fun e w1 => ∃ A2 c2, e = .returned (.agg #[.bool (neg && decide (0 < (cutL l).length)), .slice A2 (cutL l).length c2]) ∧ Sl .u8 (w.heap.size + 1) w1 (.slice A2 (cutL l).length c2) (cutL l) ∧ w1.heap[w.heap.size]? = some (.cells #[.bool false, .slice none 0 0] 54 (0, 0)) ∧ Below w.heap.size w w1) := by
    intro neg l A1 c1 B W hs h8 hk hl
    refine (of_c neg B _ l W hs (by omega)).mono ?_
    rintro e w1 ⟨v1, rfl, ⟨s2, rfl, hs2⟩, hb⟩
    obtain ⟨A2, c2, rfl, _⟩ := hs2.c
    exact ⟨A2, c2, rfl, hs2.mono (blk_lt hk), blk_below hk hb, hl.trans (hb.mono hl.size)⟩
  rcases Int.lt_or_le p 0 with hp | hp
  · rcases Int.lt_or_le p (-63) with hp2 | hp2
    · go_enter Tryz.func106, Tryz.ntmps106
      go_wp2_with (first | (go_at_call 142; refine (HP.out _).mono ?_; rintro e w' ⟨rfl, rfl⟩) | (go_at_call 127; rw [← hW]; refine (HO.out _ _ HK.out HL.out).mono ?_; rintro e w1 ⟨A1, c1, rfl, hs1, hk1, hl1⟩; have HS1 := Lib.hid hs1; have HK1 := Lib.hid hk1; have HL1 := Lib.hid hl1; clear hs1 hk1 hl1) | (go_at_call 24; refine (HOf.out _ _ _ _ _ _ HS1.out hl8 HK1.out HL1.out).mono ?_; rintro e w2 ⟨A2, c2, rfl, hs2, hk2, hl2⟩; have HS2 := Lib.hid hs2; have HK2 := Lib.hid hk2; have HL2 := Lib.hid hl2; obtain ⟨q0, q1, f0, f1⟩ := cells2 hk2; have hlt := blk_lt hk2; clear hs2 hk2 hl2))
      refine bodyPost_ret (v := .tuple #[.agg #[.bool false, .slice none 0 0], .bool ((m : Int) == 0)]) (by simp [results, Tryz.results106, go_sem, q0, q1, hlt]) rfl ⟨none, 0, false, [], _, rfl, Sl.nil, ⟨fun x hx => (by cases hx), fun x r h => (by cases h), fun _ => rfl, by simp⟩, ⟨fun h => by omega, fun _ => ⟨rfl, ?_⟩, fun h => by omega⟩, by simp, ?_⟩
      · rw [Bool.eq_iff_iff]; simp
      · exact ((HL2.out.setCell (Nat.le_refl _) _).setCell (Nat.le_refl _) _).alloc (by simp [World.setCell]; omega) _
    · obtain ⟨k, hk⟩ : ∃ k, (-p).toNat = k := ⟨_, rfl⟩
      have hkp : -p = (k : Int) := by omega
      have hk1 : 1 ≤ k ∧ k ≤ 63 := by omega
      go_enter Tryz.func106, Tryz.ntmps106
      go_upto_region 7 with (first | (go_at_call 142; refine (HP.out _).mono ?_; rintro e w' ⟨rfl, rfl⟩) | (go_at_call 127; rw [← hW]; refine (HO.out _ _ HK.out HL.out).mono ?_; rintro e w1 ⟨A1, c1, rfl, hs1, hk1, hl1⟩; have HS1 := Lib.hid hs1; have HK1 := Lib.hid hk1; have HL1 := Lib.hid hl1; clear hs1 hk1 hl1) | (go_at_call 24; refine (HOf.out _ _ _ _ _ _ HS1.out hl8 HK1.out HL1.out).mono ?_; rintro e w2 ⟨A2, c2, rfl, hs2, hk2, hl2⟩; have HS2 := Lib.hid hs2; have HK2 := Lib.hid hk2; have HL2 := Lib.hid hl2; obtain ⟨q0, q1, f0, f1⟩ := cells2 hk2; have hlt := blk_lt hk2; clear hs2 hk2 hl2))
      have HK3 : Hid ((w2.alloc (.cells #[.bool (s && decide (0 < (cutL (bytes8 m)).length)), .slice A2 (cutL (bytes8 m)).length c2] 54)).heap[w.heap.size]? = some (.cells #[.bool false, .slice none 0 0] 54 (0, 0))) := blk_alloc HK2.out _
      have HL3 : Hid (Below w.heap.size w (w2.alloc (.cells #[.bool (s && decide (0 < (cutL (bytes8 m)).length)), .slice A2 (cutL (bytes8 m)).length c2] 54))) := HL2.out.alloc HL2.out.size _
      have h8q := bytes8_bytes (((m / 2 ^ k : Nat) : Int)) (Int.natCast_nonneg _)
      have hmk : ((m : Int) / 2 ^ k) = ((m / 2 ^ k : Nat) : Int) := by simp
      have hqm : m / 2 ^ k ≤ m := Nat.div_le_self _ _
      have h8n := bytes8_num (((m / 2 ^ k : Nat) : Int)) (Int.natCast_nonneg _) (Int.lt_of_le_of_lt (Int.ofNat_le.2 hqm) (by omega))
      have HG2 := Lib.hid (good_of s _ h8q (by show 8 < _; omega))
      have HV2 := Lib.hid ((val_of s _ h8q).trans (show val s (bytes8 ((m / 2 ^ k : Nat) : Int)) = smag s (m / 2 ^ k) from by unfold val smag; rw [h8n]))
      have HC2 := Lib.hid (cutL_length (bytes8 ((m / 2 ^ k : Nat) : Int)))
      rw [← hmk] at HG2 HV2 HC2
      clear h8q hmk h8n hqm
      have hpk := two_drop k (by omega)
      have hpk1 := pow2_ge k
      have eand : Go.bits .and .u64 (m : Int) (IntKind.u64.wrap (IntKind.u64.wrap (2 ^ k) - 1)) = ((m % 2 ^ k : Nat) : Int) := by
        have e0 : IntKind.u64.wrap (IntKind.u64.wrap (2 ^ k) - 1) = ((2 ^ k - 1 : Nat) : Int) := by
          have e1 : ((2 ^ k - 1 : Nat) : Int) = 2 ^ k - 1 := by
            rw [Int.ofNat_sub (Nat.one_le_two_pow)]
            simp
          rw [e1]
          simp only [IntKind.wrap, IntKind.signed, IntKind.bits]
          simp
          omega
        rw [e0]
        exact and_mask m k (by omega) (by omega)
      clear hpk hpk1
      obtain ⟨R, hR⟩ : ∃ R : Nat, m % 2 ^ k = R := ⟨_, rfl⟩
      rw [hR] at eand
      have HR := Lib.hid hR
      clear hR
      obtain ⟨Q, hQ⟩ : ∃ Q : Int, (m : Int) / 2 ^ k = Q := ⟨_, rfl⟩
      have HQ := Lib.hid hQ
      rw [hQ] at HG2 HV2 HC2
      go_wp2_with (first | (go_at_call 127; refine (HO.out _ _ HK3.out HL3.out).mono ?_; rintro e w4 ⟨A4, c4, rfl, hs4, hk4, hl4⟩; have HS4 := Lib.hid hs4; have HK4 := Lib.hid hk4; have HL4 := Lib.hid hl4; clear hs4 hk4 hl4) | (go_at_call 24; refine (HOf.out _ _ _ _ _ _ HS4.out rfl HK4.out HL4.out).mono ?_; rintro e w5 ⟨A5, c5, rfl, hs5, hk5, hl5⟩; have HS5 := Lib.hid hs5; have HL5 := Lib.hid hl5; obtain ⟨z0, z1, g0, g1⟩ := cells2 hk5; have hlt5 := blk_lt hk5; clear hs5 hk5 hl5))
      refine bodyPost_ret (v := .tuple #[.agg #[.bool (s && decide (0 < (cutL (bytes8 Q)).length)), .slice A5 (cutL (bytes8 Q)).length c5], .bool ((R : Int) == 0)]) (by simp [results, Tryz.results106, go_sem, z0, z1, hlt5]) rfl ⟨_, _, _, _, _, rfl, ?_, HG2.out, ⟨fun h => by omega, fun h => by omega, fun _ _ => ?_⟩, ?_, ?_⟩
      · exact ((HS5.out.setCell (p := ⟨w.heap.size, 0, none⟩) _ (by show w.heap.size < _; omega)).setCell (p := ⟨w.heap.size, 1, none⟩) _ (by show w.heap.size < _; omega)).mono (by omega)
      · rw [hk, HR.out, HV2.out]
        refine ⟨rfl, ?_⟩
        rw [Bool.eq_iff_iff]; simp
      · have h1 := HC2.out
        have h2 : (bytes8 Q).length = 8 := rfl
        omega
      · exact (HL5.out.setCell (Nat.le_refl _) _).setCell (Nat.le_refl _) _
  · go_enter Tryz.func106, Tryz.ntmps106
    go_upto_region 4 with (first | (go_at_call 142; refine (HP.out _).mono ?_; rintro e w' ⟨rfl, rfl⟩) | (go_at_call 127; rw [← hW]; refine (HO.out _ _ HK.out HL.out).mono ?_; rintro e w1 ⟨A1, c1, rfl, hs1, hk1, hl1⟩; have HS1 := Lib.hid hs1; have HK1 := Lib.hid hk1; have HL1 := Lib.hid hl1; clear hs1 hk1 hl1) | (go_at_call 24; refine (HOf.out _ _ _ _ _ _ HS1.out hl8 HK1.out HL1.out).mono ?_; rintro e w2 ⟨A2, c2, rfl, hs2, hk2, hl2⟩; have HS2 := Lib.hid hs2; have HK2 := Lib.hid hk2; have HL2 := Lib.hid hl2; obtain ⟨q0, q1, f0, f1⟩ := cells2 hk2; have hlt := blk_lt hk2; clear hs2 hk2 hl2))
    have HK3 : Hid ((w2.alloc (.cells #[.bool (s && decide (0 < (cutL (bytes8 m)).length)), .slice A2 (cutL (bytes8 m)).length c2] 54)).heap[w.heap.size]? = some (.cells #[.bool false, .slice none 0 0] 54 (0, 0))) := blk_alloc HK2.out _
    have HL3 : Hid (Below w.heap.size w (w2.alloc (.cells #[.bool (s && decide (0 < (cutL (bytes8 m)).length)), .slice A2 (cutL (bytes8 m)).length c2] 54))) := HL2.out.alloc HL2.out.size _
    obtain ⟨k, hk⟩ : ∃ k : Nat, p = (k : Int) := ⟨p.toNat, by omega⟩
    subst hk
    go_wp2_with (go_at_call 143; refine (lsh_c _ _ _ _ k _ ⟨_, rfl, HS2.out.alloc _⟩ HG.out (by have := HC.out; omega) (by omega)).mono ?_; rintro e w4 ⟨A4, c4, n4, l4, rfl, hs4, hg4, hv4, hl4, hb4⟩; have HS4 := Lib.hid hs4; have HG4 := Lib.hid (And.intro hg4 (And.intro hv4 hl4)); have HB4 := Lib.hid hb4; obtain ⟨z0, z1, g0, g1⟩ := cells2 (blk_below HK3.out hb4); clear hs4 hg4 hv4 hl4 hb4)
    refine bodyPost_ret (v := .tuple #[.agg #[.bool n4, .slice A4 l4.length c4], .bool true]) (by simp [results, Tryz.results106, go_sem, z0, z1]) rfl ⟨_, _, n4, l4, true, rfl, ?_, HG4.out.1, ⟨fun _ => ⟨by rw [HG4.out.2.1, HV.out]; simp, rfl⟩, fun h => by omega, fun _ h => by omega⟩, by have h1 := HG4.out.2.2; have h2 := HC.out; omega, ?_⟩
    · exact ((HS4.out.setCell (p := ⟨w.heap.size, 0, none⟩) _ (by show w.heap.size < _; simp; omega)).setCell (p := ⟨w.heap.size, 1, none⟩) _ (by show w.heap.size < _; simp; omega)).mono (by simp; omega)
    · exact ((HL3.out.trans (HB4.out.mono HL3.out.size)).setCell (Nat.le_refl _) _).setCell (Nat.le_refl _) _
end Go.Proofs.YtkplnbjgkhmbcaaGreatDoor

namespace Go.Proofs.YtkplnbjgkhmbcaaGreatDoor
open Go.RowKit Go.Proofs.YtkplnbjgkhmbcaaGreatDoorW.PrintWords Go.Proofs.YtkplnbjgkhmbcaaGreatDoorW.PrintLast Go.Proofs.YtkplnbjgkhmbcaaGreatDoorW.PrintMore Go.Proofs.YtkplnbjgkhmbcaaGreatDoor.PFnCompare Go.Proofs.YtkplnbjgkhmbcaaGreatDoor.PCmp Go.Proofs.YtkplnbjgkhmbcaaGreatDoor.PbytesOf Go.Proofs.YtkplnbjgkhmbcaaGreatDoor.Pcmp
set_option linter.unusedVariables false
set_option linter.unusedSimpArgs false

theorem cmp_lt_iff (x y : Int) : (compare x y == .lt) = decide (x < y) := by
  rw [Bool.eq_iff_iff]
  simp only [compare, compareOfLessAndEq]
  split
  · simp; omega
  · split
    · simp; omega
    · simp; omega
theorem fzero : fdat 0 = .number false 0 (-1074) := by decide
theorem below_zero (b : Nat) (s : Bool) (m : Nat) (p : Int) (h : fdat b = .number s m p) : (f64ord b 0 == some .lt) = (s && decide (m ≠ 0)) := by
  rw [ord_dat, fzero, h]
  show ((some (compare (Ieee.signed s m (p - min p (-1074)).toNat) (Ieee.signed false 0 (-1074 - min p (-1074)).toNat)) == some Ordering.lt)) = _
  rw [Option.some_beq_some, cmp_lt_iff, signed_eq, signed_eq]
  have h1 := pow2_ge (p - min p (-1074)).toNat
  obtain ⟨P, hP⟩ : ∃ P : Int, 2 ^ (p - min p (-1074)).toNat = P := ⟨_, rfl⟩
  rw [hP] at h1 ⊢
  have h2 : smag false 0 = 0 := rfl
  rw [h2, Int.zero_mul]
  rw [Bool.eq_iff_iff]
  simp
  cases s
  · have h3 : smag false m = (m : Int) := rfl
    rw [h3]
    have := Int.mul_nonneg (Int.natCast_nonneg m) (by omega : 0 ≤ P)
    simp; omega
  · have h3 : smag true m = -(m : Int) := rfl
    rw [h3, Int.neg_mul]
    by_cases hm : m = 0
    · subst hm; simp
    · have := Int.mul_le_mul_of_nonneg_left h1 (Int.natCast_nonneg m)
      simp [hm]; omega

theorem whl_cmp (x y : Int) (s : Bool) (m : Nat) (p : Int) (all : Bool) (h : Whl s m p y all) (hm : m < 9007199254740992) :
    (if sgn (x - y) ≠ 0 ∨ all = true then sgn (x - y) else if (s && decide (m ≠ 0)) = true then 1 else -1) = sgn (x * 2 ^ (-p).toNat - smag s m * 2 ^ p.toNat) := by
  obtain ⟨h1, h2, h3⟩ := h
  rcases Int.lt_or_le p 0 with hp | hp
  · rcases Int.lt_or_le p (-63) with hp2 | hp2
    · obtain ⟨rfl, rfl⟩ := h2 hp2
      rw [← cmp_small x s m p hp2 hm]
      by_cases h0 : m = 0
      · rw [if_pos (Or.inr (by simp [h0])), if_pos (Or.inr h0)]
      · by_cases hc : sgn (x - 0) ≠ 0
        · rw [if_pos (Or.inl hc), if_pos (Or.inl hc)]
        · have hc' := Decidable.not_not.1 hc
          rw [hc']
          simp [h0]
    · obtain ⟨rfl, rfl⟩ := h3 hp2 hp
      rw [← cmp_cut x s m p hp]
      by_cases h0 : m % 2 ^ (-p).toNat = 0
      · rw [if_pos (Or.inr (by simp [h0])), if_pos (Or.inr h0)]
      · have hm0 : m ≠ 0 := by rintro rfl; simp at h0
        by_cases hc : sgn (x - smag s (m / 2 ^ (-p).toNat)) ≠ 0
        · rw [if_pos (Or.inl hc), if_pos (Or.inl hc)]
        · have hc' := Decidable.not_not.1 hc
          rw [hc']
          simp [h0, hm0]
  · obtain ⟨rfl, rfl⟩ := h1 hp
    rw [if_pos (Or.inr rfl), cmp_whole x s m p hp]

set_option maxRecDepth 100000 in
set_option maxHeartbeats 2000000 in
theorem cmpFloat_c (B : Nat) (v : Value) (n : Bool) (l : List Int) (b : Nat) (w : World) (h : SInt B w v n l) (hg : Good n l) (hb : b < 18446744073709551616) :
    Calls Tryz.prog 67 #[v, .float .f64 b] w fun e w' => e = .returned (.int .i64 (icmpF (val n l) b)) ∧ Below w.heap.size w w' := by
  have HN := Lib.hid (fun w => isNaN_c b w)
  have HP := Lib.hid (fun w => isInfP_c b w hb)
  have HM := Lib.hid (fun w => isInfN_c b w hb)
  have HB0 : Hid (∀ o, Below w.heap.size w (w.alloc o)) := fun o => (Below.refl _ _).alloc (Nat.le_refl _) o
  rcases fcase b hb with ⟨s, m, p, hd, hs, hm, hp, hp2, h0⟩ | ⟨s, hd, hs⟩ | ⟨s, f, hd⟩
  · have h1 : (fdat b).isNaN = false := by rw [hd]; rfl
    have h2 : finf false b = false := by unfold finf; rw [hd]
    have h3 : finf true b = false := by unfold finf; rw [hd]
    rw [h1] at HN
    rw [h2] at HP
    rw [h3] at HM
    have HW := Lib.hid (fun w => whole2_c b w hb s m p hd)
    have HZ := Lib.hid (below_zero b s m p hd)
    have HI : Hid (icmpF (val n l) b = sgn (val n l * 2 ^ (-p).toNat - smag s m * 2 ^ p.toNat)) := by
      refine Lib.hid ?_; unfold icmpF; rw [hd]
    have HMM := Lib.hid (And.intro hm (And.intro hp hp2))
    have H := Lib.hid h
    obtain ⟨s1, rfl, hs1⟩ := h
    obtain ⟨A1, c1, rfl, _⟩ := hs1.c
    have HG := Lib.hid hg
    clear h1 h2 h3 hd hs hm hp hp2 h0 hb hs1 hg
    obtain ⟨t, ht⟩ : ∃ t, (f64ord b 0 == some .lt) = t := ⟨_, rfl⟩
    have hord : (FloatKind.f64.format.order b 0 == some Ordering.lt) = t := ht
    have HT := Lib.hid ht
    clear ht
    obtain ⟨r, hr⟩ : ∃ r, sgn (val n l * 2 ^ (-p).toNat - smag s m * 2 ^ p.toNat) = r := ⟨_, rfl⟩
    rw [hr] at HI
    rw [HI.out]
    have HRR := Lib.hid hr
    clear hr HI
    go_enter Tryz.func67, Tryz.ntmps67
    go_upto_region 7 with (first | (go_at_call 43; refine (HN.out _).mono ?_; rintro e w' ⟨rfl, rfl⟩) | (go_at_call 62; first | ((with_reducible refine (HP.out _).mono ?_); rintro e w' ⟨rfl, rfl⟩) | ((with_reducible refine (HM.out _).mono ?_); rintro e w' ⟨rfl, rfl⟩)) | (go_at_call 106; refine (HW.out _).mono ?_; rintro e w1 ⟨A2, c2, n2, l2, all, rfl, hs2, hg2, hw2, hl2, hb2⟩; have HS2 := Lib.hid hs2; have HG2 := Lib.hid (And.intro hg2 (And.intro hw2 hl2)); have HB2 := Lib.hid hb2; have k0 := (hb2.cell (p := ⟨w.heap.size, 0, none⟩) (by simp)).trans (show World.cell? _ _ = some (.bool n) from by go_simp); have k1 := (hb2.cell (p := ⟨w.heap.size, 1, none⟩) (by simp)).trans (show World.cell? _ _ = some (.slice A1 l.length c1) from by go_simp); have hlt : w.heap.size < w1.heap.size := (by have := hb2.size; simp at this; omega); clear hs2 hg2 hw2 hl2 hb2) | (go_at_call 42; refine (cmp_c B _ _ _ n n2 l l2 _ (by obtain ⟨s, e, hs⟩ := H.out; exact ⟨s, e, (hs.below ((HB0.out _).trans (HB2.out.mono (by simp)))).alloc _⟩) ⟨_, rfl, HS2.out.alloc _⟩ HG.out HG2.out.1).mono ?_; rintro e w3 ⟨rfl, hb3⟩; have HB3 := Lib.hid hb3; clear hb3))
    have HE := Lib.hid ((whl_cmp (val n l) (val n2 l2) s m p all HG2.out.2.1 HMM.out.1).trans HRR.out)
    rw [← HZ.out, HT.out] at HE
    have hlow : Hid (Below w.heap.size w w3) := by
      refine Lib.hid (((HB0.out _).trans (HB2.out.mono (by simp))).trans ?_)
      exact ((Below.refl _ _).alloc (by omega) _).trans (HB3.out.mono (by simp; omega))
    obtain ⟨c, hc⟩ : ∃ c, sgn (val n l - val n2 l2) = c := ⟨_, rfl⟩
    rw [hc] at HE ⊢
    clear hc
    by_cases hc0 : c = 0
    · subst hc0
      cases all
      · cases t
        all_goals
          have hr := HE.out
          simp at hr
          subst hr
          clear HE
          go_wp2_with fail
          go_ret
          exact ⟨rfl, hlow.out⟩
      · have hr := HE.out
        simp at hr
        subst hr
        clear HE
        go_wp2_with fail
        go_ret
        exact ⟨rfl, hlow.out⟩
    · have hr := HE.out
      rw [if_pos (Or.inl hc0)] at hr
      subst hr
      have hcb : (c == 0) = false := by simp [hc0]
      have hcb2 : (c != 0) = true := by simp [hc0]
      clear hc0 HE
      go_wp2_with fail
      go_ret
      exact ⟨rfl, hlow.out⟩
  · have h1 : (fdat b).isNaN = false := by rw [hd]; rfl
    have h2 : finf false b = (s == false) := by unfold finf; rw [hd]
    have h3 : finf true b = (s == true) := by unfold finf; rw [hd]
    rw [h1] at HN
    rw [h2] at HP
    rw [h3] at HM
    have HI : Hid (icmpF (val n l) b = if s then 1 else -1) := by
      refine Lib.hid ?_; unfold icmpF; rw [hd]
    obtain ⟨s1, rfl, hs1⟩ := h
    obtain ⟨A1, c1, rfl, _⟩ := hs1.c
    rw [HI.out]
    clear h1 h2 h3 hd hs hb hs1 hg HI
    cases s
    all_goals
      go_enter Tryz.func67, Tryz.ntmps67
      go_wp2_with (first | (go_at_call 43; refine (HN.out _).mono ?_; rintro e w' ⟨rfl, rfl⟩) | (go_at_call 62; first | ((with_reducible refine (HP.out _).mono ?_); rintro e w' ⟨rfl, rfl⟩) | ((with_reducible refine (HM.out _).mono ?_); rintro e w' ⟨rfl, rfl⟩)))
      go_ret
      exact ⟨rfl, HB0.out _⟩
  · have h1 : (fdat b).isNaN = true := by rw [hd]; rfl
    rw [h1] at HN
    have HI : Hid (icmpF (val n l) b = -1) := by
      refine Lib.hid ?_; unfold icmpF; rw [hd]
    obtain ⟨s1, rfl, hs1⟩ := h
    obtain ⟨A1, c1, rfl, _⟩ := hs1.c
    rw [HI.out]
    clear h1 hd hb hs1 hg HI
    go_enter Tryz.func67, Tryz.ntmps67
    go_wp2_with (go_at_call 43; refine (HN.out _).mono ?_; rintro e w' ⟨rfl, rfl⟩)
    go_ret
    exact ⟨rfl, HB0.out _⟩
end Go.Proofs.YtkplnbjgkhmbcaaGreatDoor
