/- Division of two words by one, in plain numbers. · Words: products, sums, differences, division by one word. -/
import Derived.Test.YtkplnbjgkhmbcaaGreatDoorM01
import Derived.Test.YtkplnbjgkhmbcaaGreatDoorM02
import Derived.Shelf.Bits.Mul64
import Derived.Shelf.Spec.BitsCarry
import Derived.RegionTactic
import Derived.Laws.OwnMore
import Derived.Deep.QuietTactic
namespace Go.Proofs.YtkplnbjgkhmbcaaGreatDoor
set_option linter.unusedVariables false

/-- A half step of the long division: the guess is at least the digit, and what leaves the loop is the digit. -/
theorem half_le {u a y1 y0 q rh : Int} (hy0 : 0 ≤ y0) (h : u = q * y1 + rh) (hc : q * y0 ≤ 4294967296 * rh + a) :
    q * (y1 * 4294967296 + y0) ≤ u * 4294967296 + a := by
  have e : q * (y1 * 4294967296 + y0) = q * y1 * 4294967296 + q * y0 := by rw [Int.mul_add, Int.mul_assoc]
  rw [e, h]; omega
theorem half_gt {u a y1 y0 q rh : Int} (h : u = q * y1 + rh) (hc : 4294967296 * rh + a < q * y0) :
    u * 4294967296 + a < q * (y1 * 4294967296 + y0) := by
  have e : q * (y1 * 4294967296 + y0) = q * y1 * 4294967296 + q * y0 := by rw [Int.mul_add, Int.mul_assoc]
  rw [e, h]; omega
theorem le_ediv {q x y : Int} (hy : 0 < y) (h : q * y ≤ x) : q ≤ x / y := (Int.le_ediv_iff_mul_le hy).2 h
theorem ediv_lt {q x y : Int} (hy : 0 < y) (h : x < q * y) : x / y < q := (Int.ediv_lt_iff_lt_mul hy).2 h

/-- The state of the loop that corrects a guess. -/
structure Half (u a y1 y0 : Int) (q rh : Int) : Prop where
  eq : u = q * y1 + rh
  ge : (u * 4294967296 + a) / (y1 * 4294967296 + y0) ≤ q
  q0 : 0 ≤ q
  q1 : q ≤ 4294967297
  r0 : 0 ≤ rh
/-- The numbers of a half step. -/
structure HalfIn (u a y1 y0 : Int) : Prop where
  u0 : 0 ≤ u
  u1 : u < y1 * 4294967296 + y0
  a0 : 0 ≤ a
  a1 : a < 4294967296
  y10 : 2147483648 ≤ y1
  y11 : y1 < 4294967296
  y00 : 0 ≤ y0
  y01 : y0 < 4294967296
section
variable {u a y1 y0 q rh : Int}
theorem HalfIn.dig (h : HalfIn u a y1 y0) : 0 ≤ (u * 4294967296 + a) / (y1 * 4294967296 + y0) ∧ (u * 4294967296 + a) / (y1 * 4294967296 + y0) < 4294967296 := by
  have := h.u0; have := h.u1; have := h.a0; have := h.a1; have := h.y10; have := h.y00
  exact ⟨Int.ediv_nonneg (by omega) (by omega), ediv_lt (by omega) (by omega)⟩
theorem Half.start (h : HalfIn u a y1 y0) : Half u a y1 y0 (u / y1) (u - u / y1 * y1) ∧ u - u / y1 * y1 < 4294967296 := by
  have := h.u0; have := h.u1; have := h.a0; have := h.a1; have := h.y10; have := h.y00; have := h.y01; have := h.y11
  have hd := Int.mul_ediv_add_emod u y1
  have hm := Int.emod_nonneg u (b := y1) (by omega)
  have hl := Int.emod_lt_of_pos u (b := y1) (by omega)
  have hq := Int.ediv_nonneg (a := u) (b := y1) (by omega) (by omega)
  rw [Int.mul_comm] at hd
  have hq1 : u / y1 < 4294967298 := ediv_lt (by omega) (by omega)
  refine ⟨⟨by omega, ?_, hq, by omega, by omega⟩, by omega⟩
  have : (u * 4294967296 + a) / (y1 * 4294967296 + y0) < u / y1 + 1 := by
    refine ediv_lt (by omega) ?_
    have e : (u / y1 + 1) * (y1 * 4294967296 + y0) = u / y1 * y1 * 4294967296 + y1 * 4294967296 + (u / y1 + 1) * y0 := by
      rw [Int.mul_add, ← Int.mul_assoc, Int.add_mul (u / y1) 1 y1]; omega
    have : 0 ≤ (u / y1 + 1) * y0 := Int.mul_nonneg (by omega) h.y00
    rw [e]; omega
  omega
/-- The guess is too great: it goes down. -/
theorem Half.down (h : HalfIn u a y1 y0) (s : Half u a y1 y0 q rh) (hc : 4294967296 ≤ q ∨ 4294967296 * rh + a < q * y0) : Half u a y1 y0 (q - 1) (rh + y1) ∧ q - 1 ≤ 4294967296 := by
  have := h.y10; have hd := h.dig; have := s.q1; have := s.q0; have := h.y00; have := s.r0
  have e : q * y1 + rh = (q - 1) * y1 + (rh + y1) := by rw [Int.sub_mul]; omega
  have hg : (u * 4294967296 + a) / (y1 * 4294967296 + y0) < q := by
    rcases hc with hc | hc
    · omega
    · exact ediv_lt (by omega) (half_gt s.eq hc)
  exact ⟨⟨by rw [← e]; exact s.eq, by omega, by omega, by omega, by omega⟩, by omega⟩
/-- The loop is left at its head. -/
theorem Half.done (h : HalfIn u a y1 y0) (s : Half u a y1 y0 q rh) (hc : q * y0 ≤ 4294967296 * rh + a) : q = (u * 4294967296 + a) / (y1 * 4294967296 + y0) := by
  have := h.y10; have := h.y00
  have h2 := le_ediv (by omega) (half_le h.y00 s.eq hc)
  have := s.ge
  omega
/-- The loop is left by its break. -/
theorem Half.broke (h : HalfIn u a y1 y0) (s : Half u a y1 y0 q rh) (hq : q ≤ 4294967296) (hc : 4294967296 ≤ rh) : q = (u * 4294967296 + a) / (y1 * 4294967296 + y0) := by
  refine s.done h ?_
  have h1 : q * y0 ≤ 4294967296 * y0 := Int.mul_le_mul_of_nonneg_right hq h.y00
  have := h.y01; have := h.a0
  omega
end
/-- A quotient and a rest, told by their equation. -/
theorem div_eq {x y q r : Int} (h : x = q * y + r) (h0 : 0 ≤ r) (h1 : r < y) : x / y = q ∧ x % y = r := by
  have hy : 0 < y := by omega
  have e : x / y = q := by rw [h, Int.add_comm, Int.add_mul_ediv_right _ _ (by omega), Int.ediv_eq_zero_of_lt h0 h1]; omega
  refine ⟨e, ?_⟩
  have := Int.mul_ediv_add_emod x y
  rw [e, Int.mul_comm] at this; omega

/-- The guess by a reciprocal: two too small at most. -/
theorem recip_guess {x1 x0 d v t : Int} (hd : 0 < d) (hdB : d ≤ 18446744073709551616) (h1 : 0 ≤ x1) (h1d : x1 < d) (h0 : 0 ≤ x0) (h0B : x0 < 18446744073709551616)
    (hv1 : v * d ≤ 340282366920938463463374607431768211455) (hv2 : 340282366920938463463374607431768211456 ≤ v * d + d)
    (ht1 : t * 18446744073709551616 ≤ x1 * v + x0) (ht2 : x1 * v + x0 < t * 18446744073709551616 + 18446744073709551616) :
    t * d ≤ x1 * 18446744073709551616 + x0 ∧ x1 * 18446744073709551616 + x0 < t * d + 18446744073709551616 + d := by
  have e1 : (x1 * v + x0) * d = x1 * (v * d) + x0 * d := by rw [Int.add_mul, Int.mul_assoc]
  have m1 : x1 * (v * d) ≤ x1 * 340282366920938463463374607431768211455 := Int.mul_le_mul_of_nonneg_left hv1 h1
  have m2 : x1 * (340282366920938463463374607431768211456 - d) ≤ x1 * (v * d) := Int.mul_le_mul_of_nonneg_left (by omega) h1
  rw [Int.mul_sub] at m2
  have m3 : x0 * d ≤ x0 * 18446744073709551616 := Int.mul_le_mul_of_nonneg_left hdB h0
  have k1 : t * 18446744073709551616 * d ≤ (x1 * v + x0) * d := Int.mul_le_mul_of_nonneg_right ht1 (by omega)
  have k2 : (x1 * v + x0 + 1) * d ≤ (t * 18446744073709551616 + 18446744073709551616) * d := Int.mul_le_mul_of_nonneg_right (by omega) (by omega)
  have e2 : t * 18446744073709551616 * d = t * d * 18446744073709551616 := by rw [Int.mul_assoc, Int.mul_comm _ d, ← Int.mul_assoc]
  rw [e2, e1] at k1
  rw [Int.add_mul, e1, Int.add_mul (t * _), e2] at k2
  have m4 : x1 * d ≤ d * d := Int.mul_le_mul_of_nonneg_right (by omega) (by omega)
  have m5 : d * d ≤ 18446744073709551616 * d := Int.mul_le_mul_of_nonneg_right hdB (by omega)
  have m6 : x0 * (18446744073709551616 - d) ≤ 18446744073709551616 * (18446744073709551616 - d) := Int.mul_le_mul_of_nonneg_right (by omega) (by omega)
  rw [Int.mul_sub] at m6
  constructor <;> omega
end Go.Proofs.YtkplnbjgkhmbcaaGreatDoor

namespace Go.Proofs.YtkplnbjgkhmbcaaGreatDoor
open Go.RowKit Go.Shelf
set_option linter.unusedVariables false
set_option linter.unusedSimpArgs false

def Tryz.lays264_ren : Go.Shelf.Ren := ⟨fun | 264 => 254 | n => n, fun | 46 => 264 | 53 => 23 | n => n, fun | n => n⟩
theorem Tryz.lays264 : Go.Proofs.Lays.n264 Tryz.prog Tryz.lays264_ren := {
  mixed := by kernel_rfl
  f264 := Tryz.func254.trans (congrArg some (by kernel_rfl))
  t46 := Tryz.underlying264
  a46 := Tryz.isAgg264
  z46 := Tryz.sizeOf264
  v46 := Tryz.zeroValue264
  t53 := Tryz.underlying23
  a53 := Tryz.isAgg23
  z53 := Tryz.sizeOf23
  v53 := Tryz.zeroValue23
}

theorem mul64_c (x y : Int) (w : World) (hx : 0 ≤ x ∧ x < 18446744073709551616) (hy : 0 ≤ y ∧ y < 18446744073709551616) :
    Calls Tryz.prog 254 #[.int .u64 x, .int .u64 y] w fun e w' => e = .returned (.tuple #[.int .u64 (x * y / 18446744073709551616), .int .u64 (x * y % 18446744073709551616)]) ∧ w' = w := by
  obtain ⟨X, rfl⟩ := Int.eq_ofNat_of_zero_le hx.1
  obtain ⟨Y, rfl⟩ := Int.eq_ofNat_of_zero_le hy.1
  refine (Any.bits_Mul64 Tryz.lays264 X Y (by omega) (by omega) w).mono ?_
  rintro e w' ⟨rfl, rfl⟩
  exact ⟨by simp, rfl⟩
theorem call_add64 (x y c : Int) (hx : 0 ≤ x) (hy : 0 ≤ y) (hc0 : 0 ≤ c) (hc : c ≤ 1) (w : World) :
    (callFunc 236 #[.int .u64 x, .int .u64 y, .int .u64 c]).run Tryz.prog w = .ok (.value (.tuple #[.int .u64 ((x + y + c) % 18446744073709551616), .int .u64 ((x + y + c) / 18446744073709551616)])) w := by
  rw [run_callFunc_extern Tryz.func236 (by kernel_rfl) (by kernel_rfl) (by kernel_rfl) (e := add64Entry) (by kernel_rfl), run_add64 x y c hx hy hc0 hc]
  rfl
theorem call_sub64 (x y b : Int) (hx : 0 ≤ x) (hy : 0 ≤ y ∧ y < 18446744073709551616) (hb0 : 0 ≤ b) (hb : b ≤ 1) (w : World) :
    (callFunc 256 #[.int .u64 x, .int .u64 y, .int .u64 b]).run Tryz.prog w = .ok (.value (.tuple #[.int .u64 ((x + 18446744073709551616 - y - b) % 18446744073709551616), .int .u64 (if x < y + b then 1 else 0)])) w := by
  obtain ⟨X, rfl⟩ := Int.eq_ofNat_of_zero_le hx
  obtain ⟨Y, rfl⟩ := Int.eq_ofNat_of_zero_le hy.1
  obtain ⟨C, rfl⟩ := Int.eq_ofNat_of_zero_le hb0
  rw [run_callFunc_extern Tryz.func256 (by kernel_rfl) (by kernel_rfl) (by kernel_rfl) (e := sub64Entry) (by kernel_rfl), run_sub64 X Y C (by omega)]
  simp only [Result.andThen]
  have e1 : ((X + 18446744073709551616 - Y - C : Nat) : Int) = (X : Int) + 18446744073709551616 - Y - C := by omega
  by_cases h : X < Y + C
  · rw [if_pos h, if_pos (by omega)]; simp only [Int.natCast_emod, e1]; rfl
  · rw [if_neg h, if_neg (by omega)]; simp only [Int.natCast_emod, e1]; rfl

set_option maxRecDepth 100000 in
theorem mul_w (x y : Int) (w : World) (hx : 0 ≤ x ∧ x < 18446744073709551616) (hy : 0 ≤ y ∧ y < 18446744073709551616) :
    Calls Tryz.prog 249 #[.int .u64 x, .int .u64 y] w fun e w' => e = .returned (.tuple #[.int .u64 (x * y / 18446744073709551616), .int .u64 (x * y % 18446744073709551616)]) ∧ w' = w := by
  have H := Lib.hid (And.intro hx hy)
  clear hx hy
  go_enter Tryz.func249, Tryz.ntmps249
  go_wp2_with (go_at_call 254; refine (mul64_c _ _ _ H.out.1 H.out.2).mono ?_; rintro e w1 ⟨rfl, rfl⟩)
  go_ret2
  exact ⟨rfl, rfl⟩
set_option maxRecDepth 100000 in
theorem add_w (x y c : Int) (w : World) (hx : 0 ≤ x) (hy : 0 ≤ y) (hc0 : 0 ≤ c) (hc : c ≤ 1) :
    Calls Tryz.prog 218 #[.int .u64 x, .int .u64 y, .int .u64 c] w fun e w' => e = .returned (.tuple #[.int .u64 ((x + y + c) % 18446744073709551616), .int .u64 ((x + y + c) / 18446744073709551616)]) ∧ w' = w := by
  have h := call_add64 x y c hx hy hc0 hc
  clear hx hy hc0 hc
  go_enter Tryz.func218, Tryz.ntmps218
  go_wp2
  go_ret2
  exact ⟨rfl, rfl⟩
set_option maxRecDepth 100000 in
theorem sub_w (x y b : Int) (w : World) (hx : 0 ≤ x) (hy : 0 ≤ y ∧ y < 18446744073709551616) (hb0 : 0 ≤ b) (hb : b ≤ 1) :
    Calls Tryz.prog 251 #[.int .u64 x, .int .u64 y, .int .u64 b] w fun e w' => e = .returned (.tuple #[.int .u64 ((x + 18446744073709551616 - y - b) % 18446744073709551616), .int .u64 (if x < y + b then 1 else 0)]) ∧ w' = w := by
  have h := call_sub64 x y b hx hy hb0 hb
  generalize (x + 18446744073709551616 - y - b) % 18446744073709551616 = r at h ⊢
  generalize (if x < y + b then (1 : Int) else 0) = t at h ⊢
  clear hx hy hb0 hb
  go_enter Tryz.func251, Tryz.ntmps251
  go_wp2
  go_ret2
  exact ⟨rfl, rfl⟩
set_option maxRecDepth 100000 in
theorem lz_w (x : Int) (w : World) (h0 : 0 ≤ x) (h1 : x ≤ 18446744073709551615) :
    Calls Tryz.prog 237 #[.int .u64 x] w fun e w' => e = .returned (.int .i64 (64 - (Lib.bitLen x.toNat : Int))) ∧ w' = w := by
  have l := Any.bitLen_le64 x h0 h1
  have e8 : wrap64 (64 - (Lib.bitLen x.toNat : Int)) = 64 - (Lib.bitLen x.toNat : Int) := by unfold wrap64; omega
  have HL := Lib.hid (fun w => bitsLen x w h0 h1)
  generalize (Lib.bitLen x.toNat : Int) = n at *
  clear l h0 h1
  go_enter Tryz.func237, Tryz.ntmps237
  go_wp2_with (go_at_call 228; refine (HL.out _).mono ?_; rintro e w1 ⟨rfl, rfl⟩)
  go_ret
  exact ⟨by rw [e8]; rfl, rfl⟩
set_option maxRecDepth 100000 in
theorem lz64_w (x : Int) (w : World) (h0 : 0 ≤ x) (h1 : x ≤ 18446744073709551615) :
    Calls Tryz.prog 257 #[.int .u64 x] w fun e w' => e = .returned (.int .i64 (64 - (Lib.bitLen x.toNat : Int))) ∧ w' = w := by
  have l := Any.bitLen_le64 x h0 h1
  have e8 : wrap64 (64 - (Lib.bitLen x.toNat : Int)) = 64 - (Lib.bitLen x.toNat : Int) := by unfold wrap64; omega
  have HL := Lib.hid (fun w => Any.bits_Len64 Tryz.lays129 x w h0 h1)
  generalize (Lib.bitLen x.toNat : Int) = n at *
  clear l h0 h1
  go_enter Tryz.func257, Tryz.ntmps257
  go_wp2_with (go_at_call 248; refine (HL.out _).mono ?_; rintro e w1 ⟨rfl, rfl⟩)
  go_ret
  exact ⟨by rw [e8]; rfl, rfl⟩
set_option maxRecDepth 100000 in
theorem nlz_w (x : Int) (w : World) (h0 : 0 ≤ x) (h1 : x ≤ 18446744073709551615) :
    Calls Tryz.prog 220 #[.int .u64 x] w fun e w' => e = .returned (.int .u64 (64 - (Lib.bitLen x.toNat : Int))) ∧ w' = w := by
  have l := Any.bitLen_le64 x h0 h1
  have e8 : IntKind.u64.wrap (64 - (Lib.bitLen x.toNat : Int)) = 64 - (Lib.bitLen x.toNat : Int) := by rw [IntKind.wrap_u64]; omega
  have HL := Lib.hid (fun w => lz_w x w h0 h1)
  generalize (Lib.bitLen x.toNat : Int) = n at *
  clear l h0 h1
  go_enter Tryz.func220, Tryz.ntmps220
  go_wp2_with (go_at_call 237; refine (HL.out _).mono ?_; rintro e w1 ⟨rfl, rfl⟩)
  go_ret
  exact ⟨by first | rw [e8] | rfl, rfl⟩
set_option maxRecDepth 100000 in
/-- x*y + c, in two words. -/
theorem mulAddWWW_c (x y c : Int) (w : World) (hx : 0 ≤ x ∧ x < 18446744073709551616) (hy : 0 ≤ y ∧ y < 18446744073709551616) (hc : 0 ≤ c ∧ c < 18446744073709551616) :
    Calls Tryz.prog 229 #[.int .u64 x, .int .u64 y, .int .u64 c] w fun e w' => e = .returned (.tuple #[.int .u64 ((x * y + c) / 18446744073709551616), .int .u64 ((x * y + c) % 18446744073709551616)]) ∧ w' = w := by
  have hm : x * y ≤ 18446744073709551615 * 18446744073709551615 := by
    refine Int.le_trans (Int.mul_le_mul_of_nonneg_right (c := y) (by omega : x ≤ 18446744073709551615) hy.1) ?_
    omega
  have hm0 : 0 ≤ x * y := Int.mul_nonneg hx.1 hy.1
  have H := Lib.hid (And.intro hx hy)
  generalize he : x * y = P at *
  have e1 : IntKind.u64.wrap (P / 18446744073709551616 + (P % 18446744073709551616 + c) / 18446744073709551616) = (P + c) / 18446744073709551616 := by rw [IntKind.wrap_u64]; omega
  have e2 : (P % 18446744073709551616 + c) % 18446744073709551616 = (P + c) % 18446744073709551616 := by omega
  have HB := Lib.hid (show 0 ≤ P % 18446744073709551616 ∧ 0 ≤ c by omega)
  have HE := Lib.hid he
  clear hx hy hc hm hm0 he
  go_enter Tryz.func229, Tryz.ntmps229
  go_wp2_with (first
    | (go_at_call 249; refine (mul_w _ _ _ H.out.1 H.out.2).mono ?_; rintro e w1 ⟨rfl, rfl⟩; rw [HE.out])
    | (go_at_call 218; refine (add_w _ _ _ _ HB.out.1 HB.out.2 (by decide) (by decide)).mono ?_; rintro e w1 ⟨rfl, rfl⟩))
  go_ret2
  exact ⟨by first | rw [e1, e2] | rfl | simp [e1, e2], rfl⟩
end Go.Proofs.YtkplnbjgkhmbcaaGreatDoor
