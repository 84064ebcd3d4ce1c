/- The walks of bitsDiv64, reciprocalWord, divWW. -/
import Derived.Test.YtkplnbjgkhmbcaaGreatDoorM09
import Derived.Test.YtkplnbjgkhmbcaaGreatDoorM02
namespace Go.Proofs.YtkplnbjgkhmbcaaGreatDoor
open Go.RowKit Go.Shelf
set_option linter.unusedVariables false
set_option linter.unusedSimpArgs false

theorem wrap_same (x : Int) (h0 : 0 ≤ x) (h1 : x < 18446744073709551616) : IntKind.u64.wrap x = x := by rw [IntKind.wrap_u64]; omega
theorem or_zero64 (x : Int) (h0 : 0 ≤ x) (h1 : x < 18446744073709551616) : Go.bits .or .u64 x 0 = x := by
  rw [u64_or x 0 h0 h1 (by omega) (by omega)]
  simp; omega
/-- What is left behind a digit: with wraps. -/
theorem half_rest {u a y P R : Int} (hu : 0 ≤ u) (ha : 0 ≤ a) (h : u * 4294967296 + a = P + R) (h0 : 0 ≤ R) (h1 : R < 18446744073709551616) :
    IntKind.u64.wrap (IntKind.u64.wrap (IntKind.u64.wrap (u * 4294967296) + a) - IntKind.u64.wrap P) = R := by
  simp only [IntKind.wrap_u64]; omega
theorem tdiv_w (a b : Int) (ha : 0 ≤ a) (h1 : a < 18446744073709551616) (hb : 0 < b) : IntKind.u64.wrap (a.tdiv b) = a / b := by
  rw [Int.tdiv_eq_ediv_of_nonneg ha]
  have h0 := Int.ediv_nonneg (a := a) (b := b) ha (by omega)
  have hle : a / b ≤ a := Int.ediv_le_self b ha
  exact wrap_same _ h0 (by omega)

/-- The facts that a round of the correcting loop asks. -/
structure HalfW (a y1 y0 q rh : Int) : Prop where
  k1 : IntKind.u64.wrap (4294967296 * rh) = 4294967296 * rh
  k2 : IntKind.u64.wrap (4294967296 * rh + a) = 4294967296 * rh + a
  k3 : 0 < q → IntKind.u64.wrap (q - 1) = q - 1
  k4 : IntKind.u64.wrap (rh + y1) = rh + y1
theorem half_w {u a y1 y0 q rh : Int} (h : HalfIn u a y1 y0) (s : Half u a y1 y0 q rh) (hr : rh < 4294967296) : HalfW a y1 y0 q rh := by
  have := h.a0; have := h.a1; have := h.y10; have := h.y11; have := s.r0; have := s.q1; have := s.q0
  exact ⟨wrap_same _ (by omega) (by omega), wrap_same _ (by omega) (by omega), fun hq => wrap_same _ (by omega) (by omega), wrap_same _ (by omega) (by omega)⟩
theorem half_p {u a y1 y0 q rh : Int} (h : HalfIn u a y1 y0) (s : Half u a y1 y0 q rh) (hq : q < 4294967296) : IntKind.u64.wrap (q * y0) = q * y0 := by
  have h1 : q * y0 ≤ 4294967296 * y0 := Int.mul_le_mul_of_nonneg_right (by omega) h.y00
  have := h.y01
  exact wrap_same _ (Int.mul_nonneg s.q0 h.y00) (by omega)
/-- The whole: two digits and the rest. -/
theorem two_digits {h l1 l0 y q1 r1 q0 r0 : Int} (e1 : h * 4294967296 + l1 = q1 * y + r1) (e0 : r1 * 4294967296 + l0 = q0 * y + r0) (h0 : 0 ≤ r0) (hy : r0 < y) :
    (h * 18446744073709551616 + (l1 * 4294967296 + l0)) / y = q1 * 4294967296 + q0 ∧ (h * 18446744073709551616 + (l1 * 4294967296 + l0)) % y = r0 := by
  refine div_eq ?_ h0 hy
  have e : (q1 * 4294967296 + q0) * y = q1 * y * 4294967296 + q0 * y := by rw [Int.add_mul, Int.mul_right_comm]
  rw [e]; omega

set_option maxRecDepth 100000 in
set_option maxHeartbeats 4000000 in
/-- Division of two words by a word whose first bit is set. -/
theorem bitsDiv64_c (h l y : Int) (w : World) (hh : 0 < h) (hy : h < y) (hy1 : 9223372036854775808 ≤ y) (hy2 : y < 18446744073709551616) (hl : 0 ≤ l ∧ l < 18446744073709551616) :
    Calls Tryz.prog 252 #[.int .u64 h, .int .u64 l, .int .u64 y] w fun e w' => e = .returned (.tuple #[.int .u64 ((h * 18446744073709551616 + l) / y), .int .u64 ((h * 18446744073709551616 + l) % y)]) ∧ w' = w := by
  have b0 : (y == 0) = false := by simp; omega
  have b1 : ¬ y ≤ h := by omega
  have b2 : (h == 0) = false := by simp; omega
  have hbl : (64 - (Lib.bitLen y.toNat : Int)) = 0 := by
    rw [bitLen_eq 63 y.toNat (by omega) (by omega) (by omega)]; rfl
  have HZ : Hid (∀ w, Calls Tryz.prog 257 #[.int .u64 y] w fun e w' => e = .returned (.int .i64 0) ∧ w' = w) := fun w => by
    have := lz64_w y w (by omega) (by omega); rw [hbl] at this; exact this
  obtain ⟨y1, hY1⟩ : ∃ y1, y / 4294967296 = y1 := ⟨_, rfl⟩
  obtain ⟨y0, hY0⟩ : ∃ y0, y % 4294967296 = y0 := ⟨_, rfl⟩
  obtain ⟨l1, hL1⟩ : ∃ l1, l / 4294967296 = l1 := ⟨_, rfl⟩
  obtain ⟨l0, hL0⟩ : ∃ l0, l % 4294967296 = l0 := ⟨_, rfl⟩
  have aY : Go.bits .and .u64 y 4294967295 = y0 := by
    obtain ⟨Y, rfl⟩ := Int.eq_ofNat_of_zero_le (a := y) (by omega)
    rw [Mul64.maskN Y (by omega)]; omega
  have aL : Go.bits .and .u64 l 4294967295 = l0 := by
    obtain ⟨Y, rfl⟩ := Int.eq_ofNat_of_zero_le (a := l) (by omega)
    rw [Mul64.maskN Y (by omega)]; omega
  have wy := wrap_same y (by omega) hy2
  have wh := wrap_same h (by omega) (by omega)
  have wl := wrap_same l hl.1 hl.2
  have b3 : 2147483648 ≤ y1 := by omega
  have hl64 : l / 18446744073709551616 = 0 := by omega
  have ho := or_zero64 h (by omega) (by omega)
  have HI1 : Hid (HalfIn h l1 y1 y0) := ⟨by omega, by omega, by omega, by omega, by omega, by omega, by omega, by omega⟩
  have ht := tdiv_w h y1 (by omega) (by omega) (by omega)
  have HS := Lib.hid (Half.start HI1.out)
  have eY : y1 * 4294967296 + y0 = y := by omega
  have eL : l = l1 * 4294967296 + l0 := by omega
  have k1 : IntKind.u64.wrap (h / y1 * y1) = h / y1 * y1 := by
    have := HS.out.1.r0; have := Int.mul_nonneg HS.out.1.q0 (show 0 ≤ y1 by omega)
    exact wrap_same _ (by omega) (by omega)
  have k2 : IntKind.u64.wrap (h - h / y1 * y1) = h - h / y1 * y1 := by
    have := HS.out.1.r0; have := HS.out.2
    exact wrap_same _ (by omega) (by omega)
  generalize h / y1 = qs at ht HS k1 k2
  obtain ⟨rs, hrs⟩ : ∃ rs, h - qs * y1 = rs := ⟨_, rfl⟩
  replace k2 := k2.trans hrs
  rw [hrs] at HS
  -- the second digit
  have hE1 := Int.mul_ediv_add_emod (h * 4294967296 + l1) y
  have hR1 := Int.emod_nonneg (h * 4294967296 + l1) (b := y) (by omega)
  have hR2 := Int.emod_lt_of_pos (h * 4294967296 + l1) (b := y) (by omega)
  have hDg := HI1.out.dig
  rw [eY] at hDg
  obtain ⟨Q1, hQ1⟩ : ∃ Q1, (h * 4294967296 + l1) / y = Q1 := ⟨_, rfl⟩
  obtain ⟨R1, hR⟩ : ∃ R1, (h * 4294967296 + l1) % y = R1 := ⟨_, rfl⟩
  rw [hQ1, Int.mul_comm] at hE1
  rw [hQ1] at hDg
  rw [hR] at hE1 hR1 hR2
  have hu2 := half_rest (u := h) (a := l1) (y := y) (P := Q1 * y) (R := R1) (by omega) (by omega) (by omega) hR1 (by omega)
  have HI2 : Hid (HalfIn R1 l0 y1 y0) := ⟨by omega, by omega, by omega, by omega, by omega, by omega, by omega, by omega⟩
  have ht2 := tdiv_w R1 y1 (by omega) (by omega) (by omega)
  have HS2 := Lib.hid (Half.start HI2.out)
  have v1 : IntKind.u64.wrap (R1 / y1 * y1) = R1 / y1 * y1 := by
    have := HS2.out.1.r0; have := Int.mul_nonneg HS2.out.1.q0 (show 0 ≤ y1 by omega)
    exact wrap_same _ (by omega) (by omega)
  have v2 : IntKind.u64.wrap (R1 - R1 / y1 * y1) = R1 - R1 / y1 * y1 := by
    have := HS2.out.1.r0; have := HS2.out.2
    exact wrap_same _ (by omega) (by omega)
  generalize R1 / y1 = qs2 at ht2 HS2 v1 v2
  obtain ⟨rs2, hrs2⟩ : ∃ rs, R1 - qs2 * y1 = rs := ⟨_, rfl⟩
  replace v2 := v2.trans hrs2
  rw [hrs2] at HS2
  have hE2 := Int.mul_ediv_add_emod (R1 * 4294967296 + l0) y
  have hR3 := Int.emod_nonneg (R1 * 4294967296 + l0) (b := y) (by omega)
  have hR4 := Int.emod_lt_of_pos (R1 * 4294967296 + l0) (b := y) (by omega)
  have hDg2 := HI2.out.dig
  rw [eY] at hDg2
  obtain ⟨Q0, hQ0⟩ : ∃ Q0, (R1 * 4294967296 + l0) / y = Q0 := ⟨_, rfl⟩
  obtain ⟨R0, hRR⟩ : ∃ R0, (R1 * 4294967296 + l0) % y = R0 := ⟨_, rfl⟩
  rw [hQ0, Int.mul_comm] at hE2
  rw [hQ0] at hDg2
  rw [hRR] at hE2 hR3 hR4
  have hu3 := half_rest (u := R1) (a := l0) (y := y) (P := Q0 * y) (R := R0) (by omega) (by omega) (by omega) hR3 (by omega)
  have hlast : IntKind.u64.wrap (IntKind.u64.wrap (Q1 * 4294967296) + Q0) = Q1 * 4294967296 + Q0 := by
    rw [wrap_same (Q1 * 4294967296) (by omega) (by omega)]; exact wrap_same _ (by omega) (by omega)
  have wQ1 := wrap_same Q1 (by omega) (by omega)
  have wQ0 := wrap_same Q0 (by omega) (by omega)
  have wR := wrap_same R0 hR3 (by omega)
  obtain ⟨f1, f2⟩ := two_digits (y := y) (h := h) (l1 := l1) (l0 := l0) hE1.symm hE2.symm hR3 hR4
  rw [← eL] at f1 f2
  rw [f1, f2]
  have HQ1 : Hid ((h * 4294967296 + l1) / (y1 * 4294967296 + y0) = Q1) := by rw [eY]; exact hQ1
  have HQ0 : Hid ((R1 * 4294967296 + l0) / (y1 * 4294967296 + y0) = Q0) := by rw [eY]; exact hQ0
  clear f1 f2 hE1 hE2 hQ1 hQ0 hR hRR hDg hDg2 hR1 hR2 hR3 hR4 eL hh hy1 hy2 hl hbl hL0 hY0 eY hrs hrs2
  go_enter Tryz.func252, Tryz.ntmps252
  go_wp2_with (go_at_call 257; refine (HZ.out _).mono ?_; rintro e w1 ⟨rfl, rfl⟩)
  go_loop [15, 16] (fun a b => ∃ q rh, a = .int .u64 q ∧ b = .int .u64 rh ∧ Hid (Half h l1 y1 y0 q rh ∧ rh < 4294967296)) (fun a b => (intOf a).toNat)
  case atStart => exact ⟨_, _, rfl, rfl, HS.out⟩
  case round =>
    obtain ⟨q, rh, rfl, rfl, hs⟩ := hrel
    obtain ⟨ha, hb, hd, he⟩ := half_w HI1.out hs.out.1 hs.out.2
    by_cases c1 : 4294967296 ≤ q
    · have hd := hd (by omega)
      have HD := Lib.hid (Half.down HI1.out hs.out.1 (.inl c1))
      by_cases c3 : 4294967296 ≤ rh + y1
      · have hQ := (Half.broke HI1.out HD.out.1 HD.out.2 c3).trans HQ1.out
        go_wp2
        clear HD hs ha hb hd he c1 c3
        go_loop [16, 18] (fun b a => ∃ q rh, a = .int .u64 q ∧ b = .int .u64 rh ∧ Hid (Half R1 l0 y1 y0 q rh ∧ rh < 4294967296)) (fun b a => (intOf a).toNat)
        case atStart => exact ⟨_, _, rfl, rfl, HS2.out⟩
        case round =>
          obtain ⟨p, rp, rfl, rfl, hs2⟩ := hrel
          obtain ⟨ha, hb, hd, he⟩ := half_w HI2.out hs2.out.1 hs2.out.2
          by_cases c1 : 4294967296 ≤ p
          · have hd := hd (by omega)
            have HD := Lib.hid (Half.down HI2.out hs2.out.1 (.inl c1))
            by_cases c3 : 4294967296 ≤ rp + y1
            · have hQ := (Half.broke HI2.out HD.out.1 HD.out.2 c3).trans HQ0.out
              go_wp2
              clear HD hs2 ha hb hd he c1 c3
              go_ret2
              exact ⟨rfl, rfl⟩
            · go_wp2
              go_round
              case rel => exact ⟨_, _, rfl, rfl, HD.out.1, by omega⟩
              case measure => simp [intOf]; omega
          · have hp := half_p HI2.out hs2.out.1 (by omega)
            by_cases c2 : 4294967296 * rp + l0 < p * y0
            · have hq : 0 < p := by
                have := Half.down HI2.out hs2.out.1 (.inr c2)
                have := this.1.q0; omega
              have hd := hd hq
              have HD := Lib.hid (Half.down HI2.out hs2.out.1 (.inr c2))
              by_cases c3 : 4294967296 ≤ rp + y1
              · have hQ := (Half.broke HI2.out HD.out.1 HD.out.2 c3).trans HQ0.out
                go_wp2
                clear HD hs2 ha hb hd he c1 c2 c3 hq hp
                go_ret2
                exact ⟨rfl, rfl⟩
              · go_wp2
                go_round
                case rel => exact ⟨_, _, rfl, rfl, HD.out.1, by omega⟩
                case measure => simp [intOf]; omega
            · have hQ := ((Half.done HI2.out hs2.out.1 (by omega)).trans HQ0.out).symm
              subst hQ
              go_wp2
              clear hs2 ha hb hd he c1 c2 hp
              go_ret2
              exact ⟨rfl, rfl⟩
      · go_wp2
        go_round
        case rel => exact ⟨_, _, rfl, rfl, HD.out.1, by omega⟩
        case measure => simp [intOf]; omega
    · have hp := half_p HI1.out hs.out.1 (by omega)
      by_cases c2 : 4294967296 * rh + l1 < q * y0
      · have hq : 0 < q := by
          have := Half.down HI1.out hs.out.1 (.inr c2)
          have := this.1.q0; omega
        have hd := hd hq
        have HD := Lib.hid (Half.down HI1.out hs.out.1 (.inr c2))
        by_cases c3 : 4294967296 ≤ rh + y1
        · have hQ := (Half.broke HI1.out HD.out.1 HD.out.2 c3).trans HQ1.out
          go_wp2
          clear HD hs ha hb hd he c1 c2 c3 hq hp
          go_loop [16, 18] (fun b a => ∃ q rh, a = .int .u64 q ∧ b = .int .u64 rh ∧ Hid (Half R1 l0 y1 y0 q rh ∧ rh < 4294967296)) (fun b a => (intOf a).toNat)
          case atStart => exact ⟨_, _, rfl, rfl, HS2.out⟩
          case round =>
            obtain ⟨p, rp, rfl, rfl, hs2⟩ := hrel
            obtain ⟨ha, hb, hd, he⟩ := half_w HI2.out hs2.out.1 hs2.out.2
            by_cases c1 : 4294967296 ≤ p
            · have hd := hd (by omega)
              have HD := Lib.hid (Half.down HI2.out hs2.out.1 (.inl c1))
              by_cases c3 : 4294967296 ≤ rp + y1
              · have hQ := (Half.broke HI2.out HD.out.1 HD.out.2 c3).trans HQ0.out
                go_wp2
                clear HD hs2 ha hb hd he c1 c3
                go_ret2
                exact ⟨rfl, rfl⟩
              · go_wp2
                go_round
                case rel => exact ⟨_, _, rfl, rfl, HD.out.1, by omega⟩
                case measure => simp [intOf]; omega
            · have hp := half_p HI2.out hs2.out.1 (by omega)
              by_cases c2 : 4294967296 * rp + l0 < p * y0
              · have hq : 0 < p := by
                  have := Half.down HI2.out hs2.out.1 (.inr c2)
                  have := this.1.q0; omega
                have hd := hd hq
                have HD := Lib.hid (Half.down HI2.out hs2.out.1 (.inr c2))
                by_cases c3 : 4294967296 ≤ rp + y1
                · have hQ := (Half.broke HI2.out HD.out.1 HD.out.2 c3).trans HQ0.out
                  go_wp2
                  clear HD hs2 ha hb hd he c1 c2 c3 hq hp
                  go_ret2
                  exact ⟨rfl, rfl⟩
                · go_wp2
                  go_round
                  case rel => exact ⟨_, _, rfl, rfl, HD.out.1, by omega⟩
                  case measure => simp [intOf]; omega
              · have hQ := ((Half.done HI2.out hs2.out.1 (by omega)).trans HQ0.out).symm
                subst hQ
                go_wp2
                clear hs2 ha hb hd he c1 c2 hp
                go_ret2
                exact ⟨rfl, rfl⟩
        · go_wp2
          go_round
          case rel => exact ⟨_, _, rfl, rfl, HD.out.1, by omega⟩
          case measure => simp [intOf]; omega
      · have hQ := ((Half.done HI1.out hs.out.1 (by omega)).trans HQ1.out).symm
        subst hQ
        go_wp2
        clear hs ha hb hd he c1 c2 hp
        go_loop [16, 18] (fun b a => ∃ q rh, a = .int .u64 q ∧ b = .int .u64 rh ∧ Hid (Half R1 l0 y1 y0 q rh ∧ rh < 4294967296)) (fun b a => (intOf a).toNat)
        case atStart => exact ⟨_, _, rfl, rfl, HS2.out⟩
        case round =>
          obtain ⟨p, rp, rfl, rfl, hs2⟩ := hrel
          obtain ⟨ha, hb, hd, he⟩ := half_w HI2.out hs2.out.1 hs2.out.2
          by_cases c1 : 4294967296 ≤ p
          · have hd := hd (by omega)
            have HD := Lib.hid (Half.down HI2.out hs2.out.1 (.inl c1))
            by_cases c3 : 4294967296 ≤ rp + y1
            · have hQ := (Half.broke HI2.out HD.out.1 HD.out.2 c3).trans HQ0.out
              go_wp2
              clear HD hs2 ha hb hd he c1 c3
              go_ret2
              exact ⟨rfl, rfl⟩
            · go_wp2
              go_round
              case rel => exact ⟨_, _, rfl, rfl, HD.out.1, by omega⟩
              case measure => simp [intOf]; omega
          · have hp := half_p HI2.out hs2.out.1 (by omega)
            by_cases c2 : 4294967296 * rp + l0 < p * y0
            · have hq : 0 < p := by
                have := Half.down HI2.out hs2.out.1 (.inr c2)
                have := this.1.q0; omega
              have hd := hd hq
              have HD := Lib.hid (Half.down HI2.out hs2.out.1 (.inr c2))
              by_cases c3 : 4294967296 ≤ rp + y1
              · have hQ := (Half.broke HI2.out HD.out.1 HD.out.2 c3).trans HQ0.out
                go_wp2
                clear HD hs2 ha hb hd he c1 c2 c3 hq hp
                go_ret2
                exact ⟨rfl, rfl⟩
              · go_wp2
                go_round
                case rel => exact ⟨_, _, rfl, rfl, HD.out.1, by omega⟩
                case measure => simp [intOf]; omega
            · have hQ := ((Half.done HI2.out hs2.out.1 (by omega)).trans HQ0.out).symm
              subst hQ
              go_wp2
              clear hs2 ha hb hd he c1 c2 hp
              go_ret2
              exact ⟨rfl, rfl⟩
end Go.Proofs.YtkplnbjgkhmbcaaGreatDoor
