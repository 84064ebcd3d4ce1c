/- Contracts of the small letter functions: upper, lower, ToLower, ToTitle, isCasedRune at bytes below 128. -/
import Derived.Test.YtaogljodhjnfiaaGreatDoorProg
import Derived.WalkKit
import Derived.WalkSpells
import Derived.BigQuiet
import Derived.Lib.Hide
namespace Go.Proofs.YtaogljodhjnfiaaGreatDoor
open Go.RowKit
set_option linter.unusedVariables false

def upB (c : Int) : Bool := decide (65 ≤ c ∧ c ≤ 90)
def loB (c : Int) : Bool := decide (97 ≤ c ∧ c ≤ 122)
def ltB (c : Int) : Bool := upB c || loB c
def toUp (c : Int) : Int := if 97 ≤ c ∧ c ≤ 122 then c - 32 else c
def toLo (c : Int) : Int := if 65 ≤ c ∧ c ≤ 90 then c + 32 else c

theorem ret_bool {a b : Bool} (h : a = b) : Ending.returned (.bool a) = .returned (.bool b) := by rw [h]

theorem upper_any (c : Int) (w : World) : Calls Tryz.prog 21 #[.int .u8 c] w fun e w' => e = .returned (.bool (upB c)) ∧ w = w' := by
  by_cases h1 : 65 ≤ c <;> by_cases h2 : c ≤ 90
  all_goals
    go_enter Tryz.func21, Tryz.ntmps21
    go_wp2
    go_ret
    exact ⟨ret_bool (by simp [upB, h1, h2] <;> omega), rfl⟩
theorem lower_any (c : Int) (w : World) : Calls Tryz.prog 22 #[.int .u8 c] w fun e w' => e = .returned (.bool (loB c)) ∧ w = w' := by
  by_cases h1 : 97 ≤ c <;> by_cases h2 : c ≤ 122
  all_goals
    go_enter Tryz.func22, Tryz.ntmps22
    go_wp2
    go_ret
    exact ⟨ret_bool (by simp [loB, h1, h2] <;> omega), rfl⟩

theorem ret_i32 {a b : Int} (h : a = b) : Ending.returned (.int .i32 a) = .returned (.int .i32 b) := by rw [h]

theorem toLower_any (c : Int) (w : World) (h0 : 0 ≤ c) (h1 : c < 128) : Calls Tryz.prog 79 #[.int .i32 c] w fun e w' => e = .returned (.int .i32 (toLo c)) ∧ w = w' := by
  by_cases h2 : 65 ≤ c <;> by_cases h3 : c ≤ 90
  all_goals
    go_enter Tryz.func79, Tryz.ntmps79
    go_wp2
    go_ret
    exact ⟨ret_i32 (by simp [toLo, h2, h3] <;> omega), rfl⟩
theorem toUpper_any (c : Int) (w : World) (h0 : 0 ≤ c) (h1 : c < 128) : Calls Tryz.prog 44 #[.int .i32 c] w fun e w' => e = .returned (.int .i32 (toUp c)) ∧ w = w' := by
  by_cases h2 : 97 ≤ c <;> by_cases h3 : c ≤ 122
  all_goals
    go_enter Tryz.func44, Tryz.ntmps44
    go_wp2
    go_ret
    exact ⟨ret_i32 (by simp [toUp, h2, h3] <;> omega), rfl⟩
theorem toUp_id (c : Int) (h : ltB c = false) : toUp c = c := by
  simp [ltB, upB, loB] at h; unfold toUp; rw [if_neg (by omega)]
theorem toLo_id (c : Int) (h : ltB c = false) : toLo c = c := by
  simp [ltB, upB, loB] at h; unfold toLo; rw [if_neg (by omega)]
theorem simpleFold_no (c : Int) (w : World) (h0 : 0 ≤ c) (h1 : c < 128) (h : ltB c = false) : Calls Tryz.prog 69 #[.int .i32 c] w fun e w' => e = .returned (.int .i32 c) ∧ w = w' := by
  have hu := toUp_id c h
  have hl := toLo_id c h
  simp [ltB, upB, loB] at h
  have c1 : (c == 75) = false := by simp; omega
  have c2 : (c == 107) = false := by simp; omega
  have c3 : (c == 83) = false := by simp; omega
  have c4 : (c == 115) = false := by simp; omega
  have c5 : ¬ 1114111 < c := by omega
  have c6 : ¬ c < 0 := by omega
  have HU := Lib.hid hu
  have HL := Lib.hid hl
  clear h hu hl
  go_enter Tryz.func69, Tryz.ntmps69
  go_wp2_with (first | (go_at_call 79; refine (toLower_any _ _ h0 h1).mono ?_; rintro e w' ⟨rfl, rfl⟩; rw [HL.out]) | (go_at_call 44; refine (toUpper_any _ _ h0 h1).mono ?_; rintro e w' ⟨rfl, rfl⟩; rw [HU.out]))
  go_ret
  exact ⟨rfl, rfl⟩

theorem isCased_any (c : Int) (w : World) (h0 : 0 ≤ c) (h1 : c < 128) : Calls Tryz.prog 54 #[.int .i32 c] w fun e w' => e = .returned (.bool (ltB c)) ∧ w = w' := by
  by_cases hl : ltB c = true
  · have hl' := hl
    simp [ltB, upB, loB] at hl
    have h2 : ∀ b, (b = decide (97 ≤ c)) → True := fun _ _ => trivial
    clear h2
    rcases hl with hl | hl
    · have g1 : ¬ 97 ≤ c := by omega
      obtain ⟨g2, g3⟩ := hl
      go_enter Tryz.func54, Tryz.ntmps54
      go_wp2
      go_ret
      exact ⟨ret_bool (by simp), rfl⟩
    · obtain ⟨g2, g3⟩ := hl
      go_enter Tryz.func54, Tryz.ntmps54
      go_wp2
      go_ret
      exact ⟨ret_bool hl'.symm, rfl⟩
  · have hl' : ltB c = false := by simpa using hl
    have HL := Lib.hid hl'
    have hn := hl'
    simp [ltB, upB, loB] at hn
    clear hl hl'
    by_cases g1 : 97 ≤ c <;> by_cases g2 : 65 ≤ c
    · have g3 : ¬ c ≤ 122 := by omega
      have g4 : ¬ c ≤ 90 := by omega
      clear hn
      go_enter Tryz.func54, Tryz.ntmps54
      go_wp2_with (go_at_call 69; refine (simpleFold_no _ _ h0 h1 HL.out).mono ?_; rintro e w' ⟨rfl, rfl⟩)
      go_ret
      exact ⟨ret_bool (by rw [HL.out]), rfl⟩
    · omega
    · have g4 : ¬ c ≤ 90 := by omega
      clear hn
      go_enter Tryz.func54, Tryz.ntmps54
      go_wp2_with (go_at_call 69; refine (simpleFold_no _ _ h0 h1 HL.out).mono ?_; rintro e w' ⟨rfl, rfl⟩)
      go_ret
      exact ⟨ret_bool (by rw [HL.out]), rfl⟩
    · clear hn
      go_enter Tryz.func54, Tryz.ntmps54
      go_wp2_with (go_at_call 69; refine (simpleFold_no _ _ h0 h1 HL.out).mono ?_; rintro e w' ⟨rfl, rfl⟩)
      go_ret
      exact ⟨ret_bool (by rw [HL.out]), rfl⟩
end Go.Proofs.YtaogljodhjnfiaaGreatDoor
