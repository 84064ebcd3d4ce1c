/- The walks of reciprocalWord, divWW. · The walk of divWW. · Division of words by one word: divWVW, divW, div. -/
import Derived.Test.YtkplnbjgkhmbcaaGreatDoorM10
import Derived.Test.YtkplnbjgkhmbcaaGreatDoorM03
import Derived.Laws.BitsAllLaws
namespace Go.Proofs.YtkplnbjgkhmbcaaGreatDoor
open Go.RowKit Go.Shelf
set_option linter.unusedVariables false
set_option linter.unusedSimpArgs false

set_option maxRecDepth 100000 in
theorem bitsDiv_c (h l y : Int) (w : World) (hh : 0 < h) (hy : h < y) (hy1 : 9223372036854775808 ≤ y) (hy2 : y < 18446744073709551616) (hl : 0 ≤ l ∧ l < 18446744073709551616) :
    Calls Tryz.prog 238 #[.int .u64 h, .int .u64 l, .int .u64 y] w fun e w' => e = .returned (.tuple #[.int .u64 ((h * 18446744073709551616 + l) / y), .int .u64 ((h * 18446744073709551616 + l) % y)]) ∧ w' = w := by
  have HC := Lib.hid (fun w => bitsDiv64_c h l y w hh hy hy1 hy2 hl)
  generalize (h * 18446744073709551616 + l) / y = q at HC ⊢
  generalize (h * 18446744073709551616 + l) % y = r at HC ⊢
  clear hh hy hy1 hy2 hl
  go_enter Tryz.func238, Tryz.ntmps238
  go_wp2_with (go_at_call 252; refine (HC.out _).mono ?_; rintro e w1 ⟨rfl, rfl⟩)
  go_ret2
  exact ⟨rfl, rfl⟩

theorem xor_max (U : Int) (h0 : 0 ≤ U) (h1 : U < 18446744073709551616) : Go.bits .xor .u64 IntKind.u64.max U = 18446744073709551615 - U := by
  obtain ⟨u, rfl⟩ := Int.eq_ofNat_of_zero_le h0
  have e : IntKind.u64.max = ((18446744073709551615 : Nat) : Int) := by decide
  rw [e, u64_xor_nat _ _ (by omega) (by omega)]
  have h := congrArg BitVec.toNat (BitVec.not_def (x := BitVec.ofNat 64 u))
  rw [BitVec.toNat_not, BitVec.toNat_xor, BitVec.toNat_allOnes, BitVec.toNat_ofNat, Nat.mod_eq_of_lt (by omega : u < 2 ^ 64)] at h
  have : (18446744073709551615 : Nat) ^^^ u = 18446744073709551615 - u := by
    have h2 : (2 ^ 64 - 1 : Nat) = 18446744073709551615 := by decide
    rw [← h2]; exact h.symm
  omega
/-- A word of n bits: how it is laid at the top. -/
structure Nrm (y : Int) (s : Nat) : Prop where
  s1 : 0 < s
  s2 : s < 64
  lo : 9223372036854775808 ≤ y * 2 ^ s
  hi : y * 2 ^ s < 18446744073709551615
theorem nrm_of (y : Int) (h0 : 0 < y) (h1 : y < 9223372036854775808) : ∃ s : Nat, Nrm y s ∧ 64 - (Lib.bitLen y.toNat : Int) = s := by
  obtain ⟨Y, rfl⟩ := Int.eq_ofNat_of_zero_le (a := y) (by omega)
  obtain ⟨k, hk1, hk2⟩ : ∃ k, 2 ^ k ≤ Y ∧ Y < 2 ^ (k + 1) := ⟨Y.log2, Nat.log2_self_le (by omega), Nat.lt_log2_self⟩
  have hk : k < 63 := by
    rcases Nat.lt_or_ge k 63 with h | h
    · exact h
    · have : (2 : Nat) ^ 63 ≤ 2 ^ k := Nat.pow_le_pow_right (by omega) h
      omega
  have e1 : (2 : Nat) ^ k * 2 ^ (63 - k) = 9223372036854775808 := by rw [← Nat.pow_add, show k + (63 - k) = 63 from by omega]
  have e2 : (2 : Nat) ^ (k + 1) * 2 ^ (63 - k) = 18446744073709551616 := by rw [← Nat.pow_add, show k + 1 + (63 - k) = 64 from by omega]
  have m1 : 9223372036854775808 ≤ Y * 2 ^ (63 - k) := e1 ▸ Nat.mul_le_mul_right _ hk1
  have m2 : Y * 2 ^ (63 - k) < 18446744073709551616 := e2 ▸ Nat.mul_lt_mul_of_pos_right hk2 (Nat.two_pow_pos _)
  have m3 : Y * 2 ^ (63 - k) = 2 * (Y * 2 ^ (62 - k)) := by
    rw [show 63 - k = (62 - k) + 1 from by omega, Nat.pow_succ]; rw [← Nat.mul_assoc]; omega
  have c : ((Y : Int)) * 2 ^ (63 - k) = ((Y * 2 ^ (63 - k) : Nat) : Int) := by simp
  refine ⟨63 - k, ⟨by omega, by omega, by rw [c]; omega, by rw [c]; omega⟩, ?_⟩
  rw [Int.toNat_natCast, bitLen_eq k Y hk1 hk2 (by omega)]; omega

set_option maxRecDepth 100000 in
theorem recip_c (y : Int) (s : Nat) (w : World) (h0 : 0 < y) (h1 : y < 9223372036854775808) (hn : Nrm y s) (hs : 64 - (Lib.bitLen y.toNat : Int) = s) :
    Calls Tryz.prog 239 #[.int .u64 y] w fun e w' => e = .returned (.int .u64 (340282366920938463463374607431768211455 / (y * 2 ^ s) - 18446744073709551616)) ∧ w' = w := by
  have HN := Lib.hid (fun w => nlz_w y w (by omega) (by omega))
  rw [hs] at HN
  have hlo := hn.lo
  have hhi := hn.hi
  have hs2 := hn.s2
  clear hn hs
  obtain ⟨U, hU⟩ : ∃ U : Int, y * 2 ^ s = U := ⟨_, rfl⟩
  rw [hU] at hlo hhi ⊢
  have e1 : IntKind.u64.wrap (y * 2 ^ s) = U := by rw [hU]; exact wrap_same U (by omega) (by omega)
  have e2 := xor_max U (by omega) (by omega)
  have HC := Lib.hid (fun w => bitsDiv_c (18446744073709551615 - U) 18446744073709551615 U w (by omega) (by omega) (by omega) (by omega) (by omega))
  have e3 : ((18446744073709551615 - U) * 18446744073709551616 + 18446744073709551615) / U = 340282366920938463463374607431768211455 / U - 18446744073709551616 := by
    have := Int.add_mul_ediv_right 340282366920938463463374607431768211455 (-18446744073709551616) (show U ≠ 0 by omega)
    rw [Int.neg_mul] at this
    rw [← Int.sub_eq_add_neg, ← Int.sub_eq_add_neg] at this
    rw [← this]; congr 1; omega
  rw [e3] at HC
  generalize ((18446744073709551615 - U) * 18446744073709551616 + 18446744073709551615) % U = rr at HC
  generalize 340282366920938463463374607431768211455 / U - 18446744073709551616 = m at HC ⊢
  generalize 18446744073709551615 - U = V at HC e2
  clear e3 hU hlo hhi
  go_enter Tryz.func239, Tryz.ntmps239
  go_wp2_with (first | (go_at_call 220; refine (HN.out _).mono ?_; rintro e w1 ⟨rfl, rfl⟩) | (go_at_call 238; with_reducible refine (HC.out _).mono ?_; rintro e w1 ⟨rfl, rfl⟩))
  all_goals go_ret
  all_goals exact ⟨rfl, rfl⟩

/-- The numbers of a division by a reciprocal. -/
theorem recip_num (x1 x0 y : Int) (s : Nat) (h0 : 0 < y) (hn : Nrm y s) (hx : 0 ≤ x1 ∧ x1 < y) (hx0 : 0 ≤ x0 ∧ x0 < 18446744073709551616) :
    ∃ X1 X0 U m T R k ρ : Int, y * 2 ^ s = U ∧ Go.bits .or .u64 (IntKind.u64.wrap (x1 * 2 ^ s)) (x0 / 2 ^ (64 - s)) = X1 ∧ IntKind.u64.wrap (x0 * 2 ^ s) = X0 ∧
      340282366920938463463374607431768211455 / U - 18446744073709551616 = m ∧ 0 ≤ m ∧ m < 18446744073709551616 ∧ 0 ≤ X1 ∧ X1 < U ∧ 0 ≤ X0 ∧ X0 < 18446744073709551616 ∧
      (m * X1 / 18446744073709551616 + X1 + (m * X1 % 18446744073709551616 + X0) / 18446744073709551616) % 18446744073709551616 = T ∧ 0 ≤ T ∧ T + 2 < 18446744073709551618 ∧
      X1 * 18446744073709551616 + X0 = U * T + R ∧ 0 ≤ R ∧ R < 18446744073709551616 + U ∧
      (x1 * 18446744073709551616 + x0) / y = T + k ∧ R = k * U + ρ ∧ 0 ≤ k ∧ k ≤ 2 ∧ 0 ≤ ρ ∧ ρ < U ∧ ρ / 2 ^ s = (x1 * 18446744073709551616 + x0) % y ∧ T + k < 18446744073709551616 := by
  obtain ⟨hs1, hs2, hlo, hhi⟩ := hn
  obtain ⟨p, hp⟩ : ∃ p : Int, (2 : Int) ^ s = p := ⟨_, rfl⟩
  obtain ⟨r, hr⟩ : ∃ r : Int, (2 : Int) ^ (64 - s) = r := ⟨_, rfl⟩
  have hpr : r * p = 18446744073709551616 := by rw [← hp, ← hr, ← Int.pow_add, show 64 - s + s = 64 from by omega]; rfl
  have hp0 : 0 < p := by rw [← hp]; exact Int.pow_pos (by omega)
  have hr0 : 0 < r := by rw [← hr]; exact Int.pow_pos (by omega)
  obtain ⟨U, hU⟩ : ∃ U : Int, y * 2 ^ s = U := ⟨_, rfl⟩
  rw [hU] at hlo hhi
  obtain ⟨D, hD⟩ : ∃ D : Int, x0 * 2 ^ s = D := ⟨_, rfl⟩
  obtain ⟨E, hE⟩ : ∃ E : Int, x1 * 2 ^ s = E := ⟨_, rfl⟩
  have hE0 : 0 ≤ E := by rw [← hE]; exact Int.mul_nonneg hx.1 (by rw [hp]; omega)
  have hEp : (y - 1 - x1) * p + E + p = U := by rw [← hU, ← hE, hp, Int.sub_mul, Int.sub_mul]; omega
  have hEU : E + p ≤ U := by have := Int.mul_nonneg (show 0 ≤ y - 1 - x1 by omega) (Int.le_of_lt hp0); omega
  have hD0 : 0 ≤ D := by rw [← hD]; exact Int.mul_nonneg hx0.1 (by rw [hp]; omega)
  have hq : x0 / r = D / 18446744073709551616 := by
    rw [← hD, hp, ← hpr, Int.mul_ediv_mul_of_pos_left _ _ hp0]
  have hDp : D / 18446744073709551616 < p := by
    refine ediv_lt (by omega) ?_
    rw [← hD, hp, Int.mul_comm]
    exact Int.mul_lt_mul_of_pos_left hx0.2 hp0
  have hDl : 0 ≤ D / 18446744073709551616 := Int.ediv_nonneg hD0 (by omega)
  have hX1 : Go.bits .or .u64 (IntKind.u64.wrap (x1 * 2 ^ s)) (x0 / 2 ^ (64 - s)) = E + D / 18446744073709551616 := by
    rw [hE, hr, hq, wrap_same E hE0 (by omega), or_join64 (D / 18446744073709551616) E s hDl (by rw [hp]; exact hDp) hE0 (by rw [← hE]; exact Int.mul_emod_left _ _) (by omega) (by omega)]
    omega
  obtain ⟨X1, hX1e⟩ : ∃ X1, E + D / 18446744073709551616 = X1 := ⟨_, rfl⟩
  have hX0 : IntKind.u64.wrap (x0 * 2 ^ s) = D % 18446744073709551616 := by rw [hD, IntKind.wrap_u64]
  obtain ⟨X0, hX0e⟩ : ∃ X0, D % 18446744073709551616 = X0 := ⟨_, rfl⟩
  rw [hX1e] at hX1
  rw [hX0e] at hX0
  -- what is divided
  obtain ⟨N, hN⟩ : ∃ N, x1 * 18446744073709551616 + x0 = N := ⟨_, rfl⟩
  have hNp : X1 * 18446744073709551616 + X0 = N * p := by
    rw [← hN, Int.add_mul, ← hp, hD, Int.mul_right_comm, hE]; omega
  have hN0 : 0 ≤ N := by rw [← hN]; omega
  have hNy : N < 18446744073709551616 * y := by rw [← hN]; omega
  have hdm := Int.mul_ediv_add_emod N y
  have hr1 := Int.emod_nonneg N (b := y) (by omega)
  have hr2 := Int.emod_lt_of_pos N (b := y) h0
  have hq0 := Int.ediv_nonneg (a := N) (b := y) hN0 (by omega)
  have hqB : N / y < 18446744073709551616 := ediv_lt h0 hNy
  obtain ⟨q, hqe⟩ : ∃ q, N / y = q := ⟨_, rfl⟩
  obtain ⟨t, hte⟩ : ∃ t, N % y = t := ⟨_, rfl⟩
  rw [hqe] at hdm hq0 hqB
  rw [hte] at hdm hr1 hr2
  have hNq : N * p = q * U + t * p := by
    rw [← hdm, Int.add_mul, ← hU, hp, Int.mul_comm y q, Int.mul_assoc]
  have hρ0 : 0 ≤ t * p := Int.mul_nonneg hr1 (by omega)
  have hρ1 : t * p < U := by rw [← hU, hp]; exact Int.mul_lt_mul_of_pos_right hr2 hp0
  -- the reciprocal
  have hv := Int.mul_ediv_add_emod 340282366920938463463374607431768211455 U
  have hv1 := Int.emod_nonneg 340282366920938463463374607431768211455 (b := U) (by omega)
  have hv2 := Int.emod_lt_of_pos 340282366920938463463374607431768211455 (b := U) (by omega)
  have hm0 : 18446744073709551616 ≤ 340282366920938463463374607431768211455 / U := le_ediv (by omega) (by omega)
  have hm1 : 340282366920938463463374607431768211455 / U < 36893488147419103232 := ediv_lt (by omega) (by omega)
  obtain ⟨v, hve⟩ : ∃ v, 340282366920938463463374607431768211455 / U = v := ⟨_, rfl⟩
  rw [hve, Int.mul_comm] at hv
  rw [hve] at hm0 hm1
  have hX10 : 0 ≤ X1 := by omega
  have hX1U : X1 < U := by omega
  have hX00 : 0 ≤ X0 := by omega
  have hX01 : X0 < 18446744073709551616 := by omega
  obtain ⟨g, hg⟩ : ∃ g, (X1 * v + X0) / 18446744073709551616 = g := ⟨_, rfl⟩
  have hxv : 0 ≤ X1 * v := Int.mul_nonneg hX10 (by omega)
  obtain ⟨g1, g2⟩ := recip_guess (x1 := X1) (x0 := X0) (d := U) (v := v) (t := g) (by omega) (by omega) hX10 hX1U hX00 hX01 (by omega) (by omega) (by omega) (by omega)
  rw [hNp] at g1 g2
  have hgB : g < 18446744073709551616 := by
    have : g * U < 18446744073709551616 * U := by
      have : N * p < 18446744073709551616 * U := by rw [← hNp]; omega
      omega
    exact Int.lt_of_mul_lt_mul_right this (by omega)
  have hg0 : 0 ≤ g := by omega
  have hM : X1 * v = (v - 18446744073709551616) * X1 + X1 * 18446744073709551616 := by
    rw [Int.mul_comm X1 v, Int.sub_mul]; omega
  rw [hM] at hg
  have hT : ((v - 18446744073709551616) * X1 / 18446744073709551616 + X1 + ((v - 18446744073709551616) * X1 % 18446744073709551616 + X0) / 18446744073709551616) % 18446744073709551616 = g := by
    generalize (v - 18446744073709551616) * X1 = M at hg ⊢
    omega
  have hk : (q - g) * U = q * U - g * U := Int.sub_mul _ _ _
  have hk0 : 0 ≤ q - g := by
    rcases Int.lt_or_le (q - g) 0 with h | h
    · have := Int.mul_le_mul_of_nonneg_right (show q - g ≤ -1 by omega) (show 0 ≤ U by omega)
      omega
    · exact h
  have hk2 : q - g ≤ 2 := by
    rcases Int.lt_or_le 2 (q - g) with h | h
    · have := Int.mul_le_mul_of_nonneg_right (show 3 ≤ q - g by omega) (show 0 ≤ U by omega)
      omega
    · exact h
  have hgU : U * g = g * U := Int.mul_comm _ _
  refine ⟨X1, X0, U, v - 18446744073709551616, g, N * p - g * U, q - g, t * p, hU, hX1, hX0, by rw [hve], by omega, by omega, hX10, hX1U, hX00, hX01, hT, hg0, by omega, by rw [hNp, hgU]; omega, by omega, by omega, ?_, by rw [hk]; omega, hk0, hk2, hρ0, hρ1, ?_, by omega⟩
  · rw [hN, hqe]; omega
  · rw [hN, hte, hp, Int.mul_ediv_cancel _ (by omega)]
end Go.Proofs.YtkplnbjgkhmbcaaGreatDoor

namespace Go.Proofs.YtkplnbjgkhmbcaaGreatDoor
open Go.RowKit Go.Shelf
set_option linter.unusedVariables false
set_option linter.unusedSimpArgs false

set_option maxRecDepth 100000 in
set_option maxHeartbeats 2000000 in
theorem divWW_c (x1 x0 y m : Int) (s : Nat) (w : World) (h0 : 0 < y) (h1 : y < 9223372036854775808) (hn : Nrm y s) (hs : 64 - (Lib.bitLen y.toNat : Int) = s) (hx : 0 ≤ x1 ∧ x1 < y) (hx0 : 0 ≤ x0 ∧ x0 < 18446744073709551616)
    (hm : m = 340282366920938463463374607431768211455 / (y * 2 ^ s) - 18446744073709551616) :
    Calls Tryz.prog 240 #[.int .u64 x1, .int .u64 x0, .int .u64 y, .int .u64 m] w fun e w' => e = .returned (.tuple #[.int .u64 ((x1 * 18446744073709551616 + x0) / y), .int .u64 ((x1 * 18446744073709551616 + x0) % y)]) ∧ w' = w := by
  have HN := Lib.hid (fun w => nlz_w y w (by omega) (by omega))
  rw [hs] at HN
  obtain ⟨X1, X0, U, m', T, R, k, ρ, hU, hX1, hX0, hm', m0, mB, a1, a2, a3, a4, hT, t0, tB, hR, r0, rB, hq, hRk, k0, k2, ρ0, ρU, hρ, tk⟩ := recip_num x1 x0 y s h0 hn hx hx0
  have hlo := hn.lo
  have hhi := hn.hi
  have hs1 := hn.s1
  have hs2 := hn.s2
  clear hn
  rw [hU] at hm hlo hhi
  obtain rfl : m = m' := by rw [hm]; exact hm'
  clear hm hm'
  have wU : IntKind.u64.wrap (y * 2 ^ s) = U := by rw [hU]; exact wrap_same U (by omega) (by omega)
  have ws : IntKind.u64.wrap (64 - (s : Int)) = ((64 - s : Nat) : Int) := by rw [IntKind.wrap_u64]; omega
  have bs : ((s : Int) == 0) = false := by simp; omega
  have HM1 := Lib.hid (fun w => mul_w m X1 w ⟨m0, mB⟩ ⟨a1, by omega⟩)
  have hMl : 0 ≤ m * X1 % 18446744073709551616 := Int.emod_nonneg _ (by omega)
  have hMh : 0 ≤ m * X1 / 18446744073709551616 := Int.ediv_nonneg (Int.mul_nonneg m0 a1) (by omega)
  have hMl2 : m * X1 % 18446744073709551616 < 18446744073709551616 := Int.emod_lt_of_pos _ (by omega)
  generalize m * X1 / 18446744073709551616 = t1 at HM1 hT hMh
  generalize m * X1 % 18446744073709551616 = tl at HM1 hT hMl hMl2
  have HA1 := Lib.hid (fun w => add_w tl X0 0 w hMl a3 (by decide) (by decide))
  rw [Int.add_zero] at HA1
  have hc0 : 0 ≤ (tl + X0) / 18446744073709551616 ∧ (tl + X0) / 18446744073709551616 ≤ 1 := by omega
  generalize (tl + X0) % 18446744073709551616 = sl at HA1
  generalize (tl + X0) / 18446744073709551616 = c at HA1 hT hc0
  have HA2 := Lib.hid (fun w => add_w t1 X1 c w hMh a1 hc0.1 hc0.2)
  rw [hT] at HA2
  generalize (t1 + X1 + c) / 18446744073709551616 = c2 at HA2
  have HM2 := Lib.hid (fun w => mul_w U T w ⟨by omega, by omega⟩ ⟨t0, by omega⟩)
  have hP : 0 ≤ U * T := Int.mul_nonneg (by omega) t0
  generalize U * T = P at HM2 hR hP
  obtain ⟨p1, hp1⟩ : ∃ p1, P / 18446744073709551616 = p1 := ⟨_, rfl⟩
  obtain ⟨p0, hp0⟩ : ∃ p0, P % 18446744073709551616 = p0 := ⟨_, rfl⟩
  rw [hp1, hp0] at HM2
  have HS1 := Lib.hid (fun w => sub_w X0 p0 0 w a3 ⟨by omega, by omega⟩ (by decide) (by decide))
  rw [Int.sub_zero, Int.add_zero] at HS1
  obtain ⟨b, hb⟩ : ∃ b : Int, (if X0 < p0 then 1 else 0) = b := ⟨_, rfl⟩
  have hb2 : (X0 < p0 ∧ b = 1) ∨ (¬ X0 < p0 ∧ b = 0) := by
    by_cases h : X0 < p0
    · rw [if_pos h] at hb; exact .inl ⟨h, hb.symm⟩
    · rw [if_neg h] at hb; exact .inr ⟨h, hb.symm⟩
  rw [hb] at HS1
  have HS2 := Lib.hid (fun w => sub_w X1 p1 b w a1 ⟨by omega, by omega⟩ (by omega) (by omega))
  generalize (if X1 < p1 + b then (1 : Int) else 0) = b2 at HS2
  obtain ⟨z0, hz0⟩ : ∃ z, (X0 + 18446744073709551616 - p0) % 18446744073709551616 = z := ⟨_, rfl⟩
  obtain ⟨z1, hz1⟩ : ∃ z, (X1 + 18446744073709551616 - p1 - b) % 18446744073709551616 = z := ⟨_, rfl⟩
  rw [hz0] at HS1
  rw [hz1] at HS2
  -- the rest, in two words
  have hz : (z1 = 0 ∧ z0 = R ∧ R < 18446744073709551616) ∨ (z1 = 1 ∧ z0 = R - 18446744073709551616 ∧ 18446744073709551616 ≤ R) := by
    clear HN HM1 HA1 HA2 HM2 HS1 HS2 hX1 hX0 hq hρ hRk hb
    rcases hb2 with ⟨_, rfl⟩ | ⟨_, rfl⟩ <;> omega
  have hkk : k = 0 ∨ k = 1 ∨ k = 2 := by omega
  obtain ⟨q, hqe⟩ : ∃ q, (x1 * 18446744073709551616 + x0) / y = q := ⟨_, rfl⟩
  obtain ⟨t, hte⟩ : ∃ t, (x1 * 18446744073709551616 + x0) % y = t := ⟨_, rfl⟩
  rw [hqe] at hq ⊢
  rw [hte] at hρ ⊢
  clear hqe hte hb hb2 hz0 hz1 hp1 hp0 hP hR hT a1 a2 a3 a4 hc0 hMl hMh hMl2 m0 mB hx hx0 h0 h1 hU hs
  have h4 : (z1 = 0 ∧ k = 0 ∧ z0 = ρ) ∨ (z1 = 0 ∧ k = 1 ∧ z0 = U + ρ ∧ U + ρ < 18446744073709551616) ∨ (z1 = 1 ∧ k = 1 ∧ z0 = U + ρ - 18446744073709551616 ∧ 18446744073709551616 ≤ U + ρ) ∨ (z1 = 1 ∧ k = 2 ∧ z0 = U + U + ρ - 18446744073709551616 ∧ U + ρ < 18446744073709551616) := by
    rcases hkk with rfl | rfl | rfl <;> omega
  clear hz hkk hRk
  rcases h4 with ⟨rfl, rfl, rfl⟩ | ⟨rfl, rfl, rfl, hlt⟩ | ⟨rfl, rfl, rfl, hge⟩ | ⟨rfl, rfl, rfl, hlt⟩
  · obtain rfl : q = T := by omega
    clear hq
    have hg : ¬ U ≤ z0 := by omega
    go_enter Tryz.func240, Tryz.ntmps240
    go_wp2_with (first
    | (go_at_call 220; with_reducible refine (HN.out _).mono ?_; rintro e w1 ⟨rfl, rfl⟩)
    | (go_at_call 249; with_reducible refine (HM1.out _).mono ?_; rintro e w1 ⟨rfl, rfl⟩)
    | (go_at_call 249; with_reducible refine (HM2.out _).mono ?_; rintro e w1 ⟨rfl, rfl⟩)
    | (go_at_call 218; with_reducible refine (HA1.out _).mono ?_; rintro e w1 ⟨rfl, rfl⟩)
    | (go_at_call 218; with_reducible refine (HA2.out _).mono ?_; rintro e w1 ⟨rfl, rfl⟩)
    | (go_at_call 251; with_reducible refine (HS1.out _).mono ?_; rintro e w1 ⟨rfl, rfl⟩)
    | (go_at_call 251; with_reducible refine (HS2.out _).mono ?_; rintro e w1 ⟨rfl, rfl⟩))
    all_goals go_ret2
    all_goals exact ⟨rfl, rfl⟩
  · obtain rfl : q = T + 1 := by omega
    have hg : U ≤ U + ρ := by omega
    have k1 : IntKind.u64.wrap (T + 1) = T + 1 := wrap_same _ (by omega) (by omega)
    have k2 : IntKind.u64.wrap (U + ρ - U) = ρ := by rw [show U + ρ - U = ρ from by omega]; exact wrap_same _ ρ0 (by omega)
    go_enter Tryz.func240, Tryz.ntmps240
    go_wp2_with (first
    | (go_at_call 220; with_reducible refine (HN.out _).mono ?_; rintro e w1 ⟨rfl, rfl⟩)
    | (go_at_call 249; with_reducible refine (HM1.out _).mono ?_; rintro e w1 ⟨rfl, rfl⟩)
    | (go_at_call 249; with_reducible refine (HM2.out _).mono ?_; rintro e w1 ⟨rfl, rfl⟩)
    | (go_at_call 218; with_reducible refine (HA1.out _).mono ?_; rintro e w1 ⟨rfl, rfl⟩)
    | (go_at_call 218; with_reducible refine (HA2.out _).mono ?_; rintro e w1 ⟨rfl, rfl⟩)
    | (go_at_call 251; with_reducible refine (HS1.out _).mono ?_; rintro e w1 ⟨rfl, rfl⟩)
    | (go_at_call 251; with_reducible refine (HS2.out _).mono ?_; rintro e w1 ⟨rfl, rfl⟩))
    all_goals go_ret2
    all_goals exact ⟨rfl, rfl⟩
  · obtain rfl : q = T + 1 := by omega
    have hg : ¬ U ≤ ρ := by omega
    have k1 : IntKind.u64.wrap (T + 1) = T + 1 := wrap_same _ (by omega) (by omega)
    have k2 : IntKind.u64.wrap (U + ρ - 18446744073709551616 - U) = ρ := by rw [IntKind.wrap_u64]; omega
    generalize hz0 : U + ρ - 18446744073709551616 = z0 at HS1 k2
    clear hz0 hge
    go_enter Tryz.func240, Tryz.ntmps240
    go_wp2_with (first
    | (go_at_call 220; with_reducible refine (HN.out _).mono ?_; rintro e w1 ⟨rfl, rfl⟩)
    | (go_at_call 249; with_reducible refine (HM1.out _).mono ?_; rintro e w1 ⟨rfl, rfl⟩)
    | (go_at_call 249; with_reducible refine (HM2.out _).mono ?_; rintro e w1 ⟨rfl, rfl⟩)
    | (go_at_call 218; with_reducible refine (HA1.out _).mono ?_; rintro e w1 ⟨rfl, rfl⟩)
    | (go_at_call 218; with_reducible refine (HA2.out _).mono ?_; rintro e w1 ⟨rfl, rfl⟩)
    | (go_at_call 251; with_reducible refine (HS1.out _).mono ?_; rintro e w1 ⟨rfl, rfl⟩)
    | (go_at_call 251; with_reducible refine (HS2.out _).mono ?_; rintro e w1 ⟨rfl, rfl⟩))
    all_goals go_ret2
    all_goals exact ⟨rfl, rfl⟩
  · obtain rfl : q = T + 2 := by omega
    have k1 : IntKind.u64.wrap (T + 1) = T + 1 := wrap_same _ (by omega) (by omega)
    have k3 : IntKind.u64.wrap (T + 1 + 1) = T + 2 := by rw [show T + 1 + 1 = T + 2 from by omega]; exact wrap_same _ (by omega) (by omega)
    have k2 : IntKind.u64.wrap (U + U + ρ - 18446744073709551616 - U) = U + ρ := by rw [IntKind.wrap_u64]; omega
    have hg : U ≤ U + ρ := by omega
    have k4 : IntKind.u64.wrap (U + ρ - U) = ρ := by rw [show U + ρ - U = ρ from by omega]; exact wrap_same _ ρ0 (by omega)
    generalize hz0 : U + U + ρ - 18446744073709551616 = z0 at HS1 k2
    clear hz0 hlt
    go_enter Tryz.func240, Tryz.ntmps240
    go_wp2_with (first
    | (go_at_call 220; with_reducible refine (HN.out _).mono ?_; rintro e w1 ⟨rfl, rfl⟩)
    | (go_at_call 249; with_reducible refine (HM1.out _).mono ?_; rintro e w1 ⟨rfl, rfl⟩)
    | (go_at_call 249; with_reducible refine (HM2.out _).mono ?_; rintro e w1 ⟨rfl, rfl⟩)
    | (go_at_call 218; with_reducible refine (HA1.out _).mono ?_; rintro e w1 ⟨rfl, rfl⟩)
    | (go_at_call 218; with_reducible refine (HA2.out _).mono ?_; rintro e w1 ⟨rfl, rfl⟩)
    | (go_at_call 251; with_reducible refine (HS1.out _).mono ?_; rintro e w1 ⟨rfl, rfl⟩)
    | (go_at_call 251; with_reducible refine (HS2.out _).mono ?_; rintro e w1 ⟨rfl, rfl⟩))
    all_goals go_ret2
    all_goals exact ⟨rfl, rfl⟩
end Go.Proofs.YtkplnbjgkhmbcaaGreatDoor

namespace Go.Proofs.YtkplnbjgkhmbcaaGreatDoor
open Go.RowKit Go.Shelf
set_option linter.unusedVariables false
set_option linter.unusedSimpArgs false

theorem leN_drop (l : List Int) (j : Nat) (h : j < l.length) : leN (l.drop j) = l[j] + 18446744073709551616 * leN (l.drop (j + 1)) := by
  rw [List.drop_eq_getElem_cons h, leN_cons]
theorem div_step (l : List Int) (j : Nat) (h : j < l.length) (y : Int) : (leN (l.drop (j + 1)) % y * 18446744073709551616 + l[j]) % y = leN (l.drop j) % y := by
  rw [leN_drop l j h, Int.add_emod, Int.mul_emod, Int.emod_emod_of_dvd _ (Int.dvd_refl y), ← Int.mul_emod, ← Int.add_emod, Int.mul_comm, Int.add_comm]

set_option maxRecDepth 100000 in
set_option maxHeartbeats 2000000 in
theorem divWVW_c (g b o c1 c s : Nat) (l zs : List Int) (y : Int) (w : World) (hz : zs.length = l.length) (h2 : 2 ≤ l.length) (hmax : l.length ≤ 4398046511104) (hr : IRow .u64 w g zs) (hzw : Words zs) (hw : Words l)
    (hcell : ∀ j (h : j < l.length), w.cell? ⟨b, o + j, none⟩ = some (.int .u64 l[j])) (hb : b < g) (h0 : 0 < y) (h1 : y < 9223372036854775808) (hn : Nrm y s) (hs : 64 - (Lib.bitLen y.toNat : Int) = s) :
    Calls Tryz.prog 222 #[.slice (some ⟨g, 0, none⟩) l.length c1, .int .u64 0, .slice (some ⟨b, o, none⟩) l.length c, .int .u64 y] w fun e w' =>
      e = .returned (.int .u64 (leN l % y)) ∧ (∃ qs, qs.length = l.length ∧ Words qs ∧ IRow .u64 w' g qs) ∧ Below g w w' := by
  have e1 : ((l.length : Int) == 1) = false := by simp; omega
  have HRC := Lib.hid (fun w => recip_c y s w h0 h1 hn hs)
  obtain ⟨m, hm⟩ : ∃ m, 340282366920938463463374607431768211455 / (y * 2 ^ s) - 18446744073709551616 = m := ⟨_, rfl⟩
  rw [hm] at HRC
  have HDW := Lib.hid (fun x1 x0 w hx hx0 => divWW_c x1 x0 y m s w h0 h1 hn hs hx hx0 hm.symm)
  have HC := Lib.hid hcell
  have HW := Lib.hid hw
  have HR := Lib.hid hr
  have HZW := Lib.hid hzw
  have H0 := Lib.hid (And.intro h0 h1)
  clear hcell hr hw hzw hn hs hm
  go_enter Tryz.func222, Tryz.ntmps222
  go_wp2_with (go_at_call 239; with_reducible refine (HRC.out _).mono ?_; rintro e w1 ⟨rfl, rfl⟩)
  go_loopw [8, 12] (fun a d wr => ∃ (j : Nat) (qs : List Int) (r : Int), j ≤ l.length ∧ d = .int .i64 ((j : Int) - 1) ∧ a = .int .u64 r ∧ Hid (r = leN (l.drop j) % y) ∧ Hid (qs.length = l.length) ∧ Hid (Words qs) ∧ Hid (IRow .u64 wr g qs) ∧ Hid (Below g w1 wr)) (fun _ d _ => ((intOf d) + 1).toNat)
  case atStart => exact ⟨l.length, zs, 0, Nat.le_refl _, rfl, rfl, Lib.hid (by simp [leN]), hz, HZW.out, HR.out, Below.refl _ _⟩
  case round =>
    obtain ⟨j, qs, r, hj, rfl, rfl, Hr, Hl, HQ, HQR, HB⟩ := hrel
    rcases j with _ | j
    · have hr : r = leN l % y := by have := Hr.out; simpa using this
      subst hr
      go_wp2
      go_ret
      exact ⟨rfl, ⟨qs, Hl.out, HQ.out, HQR.out⟩, HB.out⟩
    · have hjl : j < l.length := by omega
      have hjq : j < qs.length := by have := Hl.out; omega
      have ej : ((j + 1 : Nat) : Int) - 1 = (j : Int) := by omega
      rw [ej]
      have hx := (HB.out.cell (p := ⟨b, o + j, none⟩) hb).trans (HC.out j hjl)
      have hrb : 0 ≤ r ∧ r < y := by
        rw [Hr.out]; have := H0.out
        exact ⟨Int.emod_nonneg _ (by omega), Int.emod_lt_of_pos _ (by omega)⟩
      have hxb := HW.out l[j] (List.getElem_mem hjl)
      have HD := Lib.hid (HDW.out r l[j] wr hrb hxb)
      have HE : Hid ((r * 18446744073709551616 + l[j]) % y = leN (l.drop j) % y) := by
        refine Lib.hid ?_
        rw [Hr.out]; exact div_step l j hjl y
      have hqb : 0 ≤ (r * 18446744073709551616 + l[j]) / y ∧ (r * 18446744073709551616 + l[j]) / y < 18446744073709551616 := by
        have := H0.out
        exact ⟨Int.ediv_nonneg (by omega) (by omega), ediv_lt (by omega) (by omega)⟩
      generalize (r * 18446744073709551616 + l[j]) / y = q at HD hqb
      generalize (r * 18446744073709551616 + l[j]) % y = r2 at HD HE
      generalize l[j] = xj at hx HD hxb
      obtain ⟨q1, q2, q3, q4⟩ := irow_step (v := q) HQR.out hjq HB.out (Nat.le_refl _)
      have Q3 := Lib.hid q3
      have Q4 := Lib.hid q4
      have Q5 := Lib.hid (words_set qs j q HQ.out hqb.1 hqb.2)
      clear q3 q4
      go_wp2_with (go_at_call 240; with_reducible refine HD.out.mono ?_; rintro e w2 ⟨rfl, rfl⟩)
      go_roundw
      case rel => exact ⟨j, _, r2, by omega, by go_num, rfl, HE, Lib.hid (by simpa using Hl.out), Q5, Q3, Q4⟩
      case measure => simp [intOf]

set_option maxRecDepth 100000 in
/-- Words divided by one word, onto nil: the rest. -/
theorem divW_c (B : Nat) (v : Value) (zs : List Int) (y : Int) (w : World) (h : Sl .u64 B w v zs) (h2 : 2 ≤ zs.length) (hw : Words zs) (hmax : zs.length ≤ 4398046511104) (h0 : 0 < y) (h1 : y < 9223372036854775808) :
    Calls Tryz.prog 204 #[.slice none 0 0, v, .int .u64 y] w fun e w' => (∃ A n c, e = .returned (.tuple #[.slice A n c, .int .u64 (leN zs % y)])) ∧ Below w.heap.size w w' := by
  have ey0 : (y == 0) = false := by simp; omega
  by_cases hy : y = 1
  · subst hy
    have HC := Lib.hid (fun w' (hb : Below w.heap.size w w') => natSet_c B v zs w' (h.below hb) hmax)
    have hm : leN zs % 1 = 0 := Int.emod_one _
    rw [hm]
    obtain ⟨A, c, rfl, _⟩ := h.c
    clear h
    have HB0 : Hid (Below w.heap.size w w) := Below.refl _ _
    go_enter Tryz.func204, Tryz.ntmps204
    go_wp2_with (go_at_call 160; with_reducible refine (HC.out _ HB0.out).mono ?_; rintro e w1 ⟨u, rfl, hs1, hb1⟩; obtain ⟨A1, k1, rfl, _⟩ := hs1.c; have HB1 := Lib.hid hb1; clear hs1 hb1)
    go_ret2
    exact ⟨⟨_, _, _, rfl⟩, HB1.out⟩
  · have ey1 : (y == 1) = false := by simp [hy]
    obtain ⟨s, hn, hs⟩ := nrm_of y h0 h1
    have hne : zs ≠ [] := fun e => by subst e; simp at h2
    obtain ⟨A, c, rfl, k1, k2, k3⟩ := h
    obtain ⟨b, o, rfl, hB, hlt, hc⟩ := k3 hne
    have el : ((zs.length : Int) == 0) = false := by simp; omega
    have HM := Lib.hid (fun w => make_nil zs.length w (by omega) hmax)
    have HD := Lib.hid (fun (c1 : Nat) (w1 : World) (hb1 : Below w.heap.size w w1) (hr1 : IRow .u64 w1 w.heap.size (List.replicate zs.length 0)) => divWVW_c w.heap.size b o c1 c s zs _ y w1 (by simp) h2 hmax hr1 (words_zeros _) hw (fun j hj => (hb1.cell (p := ⟨b, o + j, none⟩) hlt).trans (hc j hj)) hlt h0 h1 hn hs)
    generalize leN zs % y = r at HD ⊢
    clear hc hn hs h0 h1 hy k3 hw
    go_enter Tryz.func204, Tryz.ntmps204
    go_wp2_with (first
      | (go_at_call 161; with_reducible refine (HM.out _).mono ?_; rintro e w1 ⟨c1, rfl, hc1, hc2, hr1, hb1, hz1⟩; have HC1 := Lib.hid (And.intro hc1 hc2); have HR1 := Lib.hid hr1; have HB1 := Lib.hid hb1; have hlt1 : w.heap.size < w1.heap.size := (by rw [hz1]; exact Nat.lt_succ_self _); clear hr1 hb1 hz1 hc1 hc2)
      | (go_at_call 222; with_reducible refine (HD.out _ _ HB1.out HR1.out).mono ?_; rintro e w2 ⟨rfl, ⟨qs, hql, hqw, hqr⟩, hb2⟩; have HQL := Lib.hid (And.intro hql (And.intro hqw hqr)); have HB2 := Lib.hid (HB1.out.trans hb2); have HL2 := Lib.hid (Nat.lt_of_lt_of_le hlt1 hb2.size); clear hql hqw hqr hb2)
      | (go_at_call 166; with_reducible refine (norm_own _ zs.length _ qs _ HQL.out.1 HC1.out.1 (by have := HC1.out.2; omega) HQL.out.2.2 HL2.out HQL.out.2.1).mono ?_; rintro e w3 ⟨rfl, i, ys, rfl, y1, y2, y3, y4, y5, y6⟩))
    go_ret2
    exact ⟨⟨_, _, _, rfl⟩, HB2.out⟩

/-- The words of a number of one word. -/
def wordL (x : Int) : List Int := if x = 0 then [] else [x]
theorem leN_wordL (x : Int) : leN (wordL x) = x := by
  unfold wordL; split
  · rename_i h; rw [h]; rfl
  · simp [leN]
theorem words_wordL (x : Int) (h0 : 0 ≤ x) (h1 : x < 18446744073709551616) : Words (wordL x) := by
  unfold wordL; split
  · intro z hz; cases hz
  · intro z hz; cases hz with
    | head => exact ⟨h0, h1⟩
    | tail _ h => cases h
theorem top_wordL (x : Int) : Top (wordL x) := by
  unfold wordL; split
  · intro h; exact absurd rfl h
  · rename_i h; intro _; simpa using h
theorem irow_one (w : World) (g : Nat) (x : Int) (h : IRow .u64 w g (List.replicate 1 0)) : IRow .u64 (w.setCell ⟨g, 0, none⟩ (.int .u64 x)) g [x] := by
  have := h.set 0 (by simp) x
  simpa using this

set_option maxRecDepth 100000 in
theorem setWord_c (x : Int) (w : World) :
    Calls Tryz.prog 133 #[.slice none 0 0, .int .u64 x] w fun e w' => ∃ A c, e = .returned (.slice A (wordL x).length c) ∧ Sl .u64 w.heap.size w' (.slice A (wordL x).length c) (wordL x) ∧ Below w.heap.size w w' := by
  by_cases hx : x = 0
  · subst hx
    go_enter Tryz.func133, Tryz.ntmps133
    go_wp2
    go_ret
    exact ⟨none, 0, rfl, Sl.nil, Below.refl _ _⟩
  · have ex : (x == 0) = false := by simp [hx]
    have HL : Hid (wordL x = [x]) := by unfold wordL; rw [if_neg hx]; exact rfl
    rw [HL.out]
    have HM := Lib.hid (fun w => make_nil 1 w (by omega) (by omega))
    clear hx
    go_enter Tryz.func133, Tryz.ntmps133
    go_wp2_with (go_at_call 161; refine (HM.out _).mono ?_; rintro e w1 ⟨c1, rfl, hc1, hc2, hr1, hb1, hz1⟩; have HC1 := Lib.hid (And.intro hc1 hc2); have q1 := hr1.1 0 (by simp); have q2 := hr1.2 0 (by simp); have HR1 := Lib.hid hr1; have HB1 := Lib.hid hb1; have hlt1 : w.heap.size < w1.heap.size := (by rw [hz1]; exact Nat.lt_succ_self _); clear hr1 hb1 hz1 hc1 hc2)
    go_ret
    exact ⟨_, _, rfl, (irow_one _ _ x HR1.out).sl' (by simpa using hlt1) HC1.out.1 (by simp), HB1.out.setCell (Nat.le_refl _) _⟩

set_option maxRecDepth 100000 in
/-- Words divided by a number of one word, onto nil: the rest. -/
theorem natDiv_c (B B2 : Nat) (v v2 : Value) (zs : List Int) (y : Int) (w : World) (h : Sl .u64 B w v zs) (h2 : 2 ≤ zs.length) (hw : Words zs) (hmax : zs.length ≤ 4398046511104) (hv : Sl .u64 B2 w v2 [y]) (h0 : 0 < y) (h1 : y < 9223372036854775808) :
    Calls Tryz.prog 175 #[.slice none 0 0, .pointer none, .slice none 0 0, v, v2] w fun e w' => (∃ A n c A2 c2, e = .returned (.tuple #[.slice A n c, .slice A2 (wordL (leN zs % y)).length c2]) ∧ Sl .u64 w.heap.size w' (.slice A2 (wordL (leN zs % y)).length c2) (wordL (leN zs % y))) ∧ Below w.heap.size w w' := by
  have HD := Lib.hid (divW_c B v zs y w h h2 hw hmax h0 h1)
  obtain ⟨A2, c2, rfl, k1, k2, k3⟩ := hv
  obtain ⟨b, o, rfl, hB, hlt, hc⟩ := k3 (by simp)
  have x0 : w.cell? ⟨b, o, none⟩ = some (.int .u64 y) := by simpa using hc 0 (by simp)
  obtain ⟨A, c, rfl, _⟩ := h.c
  clear h hc k3 k2 k1 h0 h1 hw hmax h2
  generalize leN zs % y = r at HD ⊢
  have HS := Lib.hid (fun w => setWord_c r w)
  obtain ⟨rl, hrl⟩ : ∃ l, wordL r = l := ⟨_, rfl⟩
  rw [hrl] at HS ⊢
  clear hrl
  go_enter Tryz.func175, Tryz.ntmps175
  go_wp2_with (first
    | (go_at_call 204; with_reducible refine HD.out.mono ?_; rintro e w1 ⟨⟨A1, n1, c1, rfl⟩, hb1⟩; have HB1 := Lib.hid hb1; clear hb1)
    | (go_at_call 133; with_reducible refine (HS.out _).mono ?_; rintro e w2 ⟨A3, c3, rfl, hs3, hb3⟩; have HS3 := Lib.hid hs3; have HB3 := Lib.hid hb3; clear hs3 hb3))
  go_ret2
  exact ⟨⟨_, _, _, _, _, rfl, HS3.out.mono HB1.out.size⟩, HB1.out.trans (HB3.out.mono HB1.out.size)⟩
end Go.Proofs.YtkplnbjgkhmbcaaGreatDoor
