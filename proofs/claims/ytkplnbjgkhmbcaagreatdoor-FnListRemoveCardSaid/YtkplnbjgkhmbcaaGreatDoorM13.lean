/- Words times words: addMulVVWW, basicMul. -/
import Derived.Test.YtkplnbjgkhmbcaaGreatDoorM12
import Derived.Deep.QuietTactic
import Derived.Deep.DeepCutAuto
import Derived.BigQuiet
namespace Go.Proofs.YtkplnbjgkhmbcaaGreatDoor
open Go.RowKit Go.Shelf Go.Proofs.YtkplnbjgkhmbcaaGreatDoorW.PrintWords Go.Proofs.YtkplnbjgkhmbcaaGreatDoorW.PrintLast Go.Proofs.YtkplnbjgkhmbcaaGreatDoorW.PrintMore
set_option linter.unusedVariables false
set_option linter.unusedSimpArgs false

/-- Two words added to a product: the two digits. -/
theorem two_digs (t c W : Int) (hW : W = 18446744073709551616) (h0 : 0 ≤ t) (hc0 : 0 ≤ c) (hc1 : c < W) (h : t + c < W * W) :
    (t % W + c + 0) % W = (t + c) % W ∧ (t % W + c + 0) / W + t / W = (t + c) / W := by
  subst hW; omega

set_option maxRecDepth 100000 in
set_option maxHeartbeats 4000000 in
/-- d times a row, added into a row of the call's own from place i on. -/
theorem addMulVVWW_g_c (g b o c1 c2 c i : Nat) (xs D0 : List Int) (d : Int) (w : World) (hi : i + xs.length ≤ D0.length) (hw0 : Words D0) (hr : IRow .u64 w g D0) (hx : Words xs) (hmax : xs.length ≤ 1000000) (hmi : i ≤ 1000000)
    (hcell : ∀ j (h : j < xs.length), w.cell? ⟨b, o + j, none⟩ = some (.int .u64 xs[j])) (hb : b < g) (hd : 0 ≤ d ∧ d < 18446744073709551616) :
    Calls Tryz.prog 212 #[.slice (some ⟨g, i, none⟩) xs.length c1, .slice (some ⟨g, i, none⟩) xs.length c2, .slice (some ⟨b, o, none⟩) xs.length c, .int .u64 d, .int .u64 0] w fun e w' =>
      ∃ D cc, e = .returned (.int .u64 cc) ∧ AM xs D0 i d xs.length D cc ∧ IRow .u64 w' g D ∧ Below g w w' := by
  have HM := Lib.hid (fun x z w hx hz => mulAddWWW_c x d z w hx hd hz)
  have H0 := Lib.hid (am_start xs D0 i d hw0)
  have HC := Lib.hid hcell
  have HW := Lib.hid hx
  have HR := Lib.hid hr
  have HY := Lib.hid (And.intro hd hi)
  have hlen : ((xs.length : Int) != (xs.length : Int)) = false := by simp
  clear hcell hx hr hw0 hd hi
  go_enter Tryz.func212, Tryz.ntmps212
  go_wp2
  go_loopw [10, 32] (fun a d2 wr => ∃ (j : Nat) (D : List Int) (cc : Int), j ≤ xs.length ∧ d2 = .int .i64 (j : Int) ∧ a = .int .u64 cc ∧ Hid (AM xs D0 i d j D cc) ∧ Hid (IRow .u64 wr g D) ∧ Hid (Below g w wr)) (fun _ d2 _ => xs.length - (intOf d2).toNat)
  case atStart => exact ⟨0, D0, 0, Nat.zero_le _, rfl, rfl, H0, HR, Below.refl _ _⟩
  case round =>
    obtain ⟨j, D, cc, hj, rfl, rfl, HWM, HD, HB⟩ := hrel
    by_cases hlt : j < xs.length
    · have hjD : i + j < D.length := by have := HWM.out.len; have := HY.out.2; omega
      have hxj := (HB.out.cell (p := ⟨b, o + j, none⟩) hb).trans (HC.out j hlt)
      obtain ⟨s0, s1, hstep⟩ := am_step HWM.out HW.out HY.out.1 hlt hjD
      have hxw := HW.out _ (List.getElem_mem hlt)
      have hDw := HWM.out.words _ (List.getElem_mem hjD)
      have hDj := HD.out.1 (i + j) hjD
      have ht0 : 0 ≤ xs[j] * d + D[i + j] := by
        have := Int.mul_nonneg hxw.1 HY.out.1.1
        omega
      have hc0 := HWM.out.c0
      have hc1 := HWM.out.c1
      have HE := Lib.hid (fun W => HM.out xs[j] D[i + j] W hxw hDw)
      obtain ⟨t, ht⟩ : ∃ t, xs[j] * d + D[i + j] = t := ⟨_, rfl⟩
      rw [ht] at HE hstep ht0 s0 s1
      obtain ⟨p1, p2⟩ := two_digs t cc _ rfl ht0 hc0 hc1 (by omega)
      have z0 : 0 ≤ t % 18446744073709551616 := by omega
      have q00 : 0 ≤ t / 18446744073709551616 ∧ t / 18446744073709551616 ≤ 18446744073709551615 := by omega
      have HA := Lib.hid (fun W => add_w (t % 18446744073709551616) cc 0 W z0 hc0 (by omega) (by omega))
      have m00 : 0 ≤ (t + cc) / 18446744073709551616 ∧ (t + cc) / 18446744073709551616 < 18446744073709551616 := by omega
      rw [p1] at HA
      clear ht p1 s0 s1 ht0 z0 hc0 hc1
      generalize (t + cc) % 18446744073709551616 = m at HA hstep
      generalize (t + cc) / 18446744073709551616 = q at p2 hstep m00
      generalize (t % 18446744073709551616 + cc + 0) / 18446744073709551616 = q1 at HA p2
      generalize t / 18446744073709551616 = q2 at HE p2 q00
      generalize t % 18446744073709551616 = m2 at HE HA
      have hw1 : IntKind.u64.wrap (q1 + q2) = q := by rw [p2]; exact wrap_same _ m00.1 m00.2
      have HS := Lib.hid hstep
      clear hstep p2 m00 q00 t
      obtain ⟨r1, r2, r3, r4⟩ := irow_step (v := m) HD.out hjD HB.out (Nat.le_refl _)
      have Q3 := Lib.hid r3
      have Q4 := Lib.hid r4
      have hoj : i + j = i + j := rfl
      clear r3 r4 hoj
      generalize D[i + j] = dj at hDj HE r1 hDw
      generalize xs[j] = xj at hxj HE hxw
      go_wp2_with fail
      go_quiet ((go_at_call 229; exact Calls.quiet_of_same (HE.out _)))
      go_wp2_with (go_at_call 218; with_reducible refine (HA.out _).mono ?_; rintro e w2 ⟨rfl, rfl⟩)
      go_roundw
      case rel => exact ⟨j + 1, _, q, by omega, by go_num, rfl, HS, Q3, Lib.hid ((pw_below_drewN HB.out _).setCell (Nat.le_refl _) _)⟩
      case measure => simp [intOf]; omega
    · have hje : j = xs.length := by omega
      go_wp2
      go_ret
      exact ⟨D, cc, rfl, by rw [← hje]; exact HWM.out, HD.out, HB.out⟩
end Go.Proofs.YtkplnbjgkhmbcaaGreatDoor
