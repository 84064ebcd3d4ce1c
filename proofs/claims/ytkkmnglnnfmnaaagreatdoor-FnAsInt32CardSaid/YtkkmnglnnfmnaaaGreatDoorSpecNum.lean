/- The printed functions of spec.Int, in the words of plain numbers. -/
import Derived.Test.YtkkmnglnnfmnaaaGreatDoorPFnAsInt32x1
import Derived.Test.YtkkmnglnnfmnaaaGreatDoorPFnAsInt32x3
import Derived.Test.YtkkmnglnnfmnaaaGreatDoorNum
namespace Go.Proofs.YtkkmnglnnfmnaaaGreatDoor
open Go.RowKit Go.Proofs.YtkkmnglnnfmnaaaGreatDoorW.PrintWords Go.Proofs.YtkkmnglnnfmnaaaGreatDoorW.PrintLast Go.Proofs.YtkkmnglnnfmnaaaGreatDoorW.PrintMore Go.Proofs.YtkkmnglnnfmnaaaGreatDoor.PFnAsInt32
set_option linter.unusedVariables false

theorem wrap_in (i : Int) (h0 : -9223372036854775808 ≤ i) (h1 : i ≤ 9223372036854775807) : wrap64 i = i := by unfold wrap64; omega
theorem rd_at (l : List Int) (i : Nat) (h : i < l.length) : rd l (i : Int) = l[i] := by
  unfold rd
  rw [Int.toNat_natCast, List.getD_eq_getElem?_getD, List.getElem?_eq_getElem h]
  rfl

theorem cut_loop (l : List Int) (hn : l.length < 140737488355328) : ∀ (d : Nat) (k i : Nat), i ≤ l.length → l.length - i = d → d < k → spec_cut.l0 k l (i : Int) = some ((l.drop i).dropWhile (fun x => decide (x = 0))) := by
  intro d
  induction d with
  | zero =>
    intro k i hi hd hk
    obtain ⟨k, rfl⟩ : ∃ m, k = m + 1 := ⟨k - 1, by omega⟩
    obtain rfl : i = l.length := by omega
    simp only [spec_cut.l0]
    rw [if_neg (by omega)]
    simp
  | succ d ih =>
    intro k i hi hd hk
    obtain ⟨k, rfl⟩ : ∃ m, k = m + 1 := ⟨k - 1, by omega⟩
    have hlt : i < l.length := by omega
    have e : l.drop i = l[i] :: l.drop (i + 1) := List.drop_eq_getElem_cons hlt
    simp only [spec_cut.l0]
    rw [if_pos (by omega), if_pos (by omega), rd_at l i hlt]
    by_cases hz : l[i] = 0
    · rw [if_pos hz, wrap_in _ (by omega) (by omega)]
      have := ih k (i + 1) (by omega) (by omega) (by omega)
      rw [show ((i : Int) + 1) = ((i + 1 : Nat) : Int) from by omega, this, e, List.dropWhile_cons_of_pos (by simpa using hz)]
    · rw [if_neg hz, e, List.dropWhile_cons_of_neg (by simpa using hz), ← e]
      simp only [Option.bind_some]
      rw [if_pos (by omega), if_pos (by simp; omega)]
      simp
theorem cut_is (l : List Int) (k : Nat) (hn : l.length < 140737488355328) (hk : l.length < k) : spec_cut.f k l = some (cutL l) := by
  have := cut_loop l hn l.length k 0 (by omega) (by omega) hk
  unfold spec_cut.f
  simpa [cutL] using this
/-- The eight bytes of a number below 2^64. -/
def bytes8 (u : Int) : List Int := [u / 72057594037927936 % 256, u / 281474976710656 % 256, u / 1099511627776 % 256, u / 4294967296 % 256, u / 16777216 % 256, u / 65536 % 256, u / 256 % 256, u % 256]
theorem bytes8_bytes (u : Int) (h : 0 ≤ u) : Bytes (bytes8 u) := by
  intro x hx
  simp only [bytes8, List.mem_cons, List.not_mem_nil, or_false] at hx
  rcases hx with rfl | rfl | rfl | rfl | rfl | rfl | rfl | rfl <;> omega
theorem bytes8_num (u : Int) (h : 0 ≤ u) (h1 : u < 18446744073709551616) : beN (bytes8 u) = u := by
  simp only [beN, bytes8, List.foldl_cons, List.foldl_nil]
  omega
theorem bytesOf_is (u : Int) (k : Nat) (hk : 9 < k) : spec_bytesOf.f k u = some (bytes8 u) := by
  obtain ⟨k, rfl⟩ : ∃ m, k = m + 9 := ⟨k - 9, by omega⟩
  unfold spec_bytesOf.f
  rw [if_pos (by omega)]
  simp [spec_bytesOf.l0, wrap64, bytes8, List.replicate]
  omega

theorem order_loop (a b : List Int) (hn : a.length < 140737488355328) (hab : a.length = b.length) : ∀ (d : Nat) (k i : Nat), i ≤ a.length → a.length - i = d → d < k → spec_order.l0 k a b (i : Int) = some (lexC (a.drop i) (b.drop i)) := by
  intro d
  induction d with
  | zero =>
    intro k i hi hd hk
    obtain ⟨k, rfl⟩ : ∃ m, k = m + 1 := ⟨k - 1, by omega⟩
    obtain rfl : i = a.length := by omega
    simp only [spec_order.l0]
    rw [if_neg (by omega), List.drop_length]
    rfl
  | succ d ih =>
    intro k i hi hd hk
    obtain ⟨k, rfl⟩ : ∃ m, k = m + 1 := ⟨k - 1, by omega⟩
    have hlt : i < a.length := by omega
    have hlt2 : i < b.length := by omega
    have e : a.drop i = a[i] :: a.drop (i + 1) := List.drop_eq_getElem_cons hlt
    have e2 : b.drop i = b[i] :: b.drop (i + 1) := List.drop_eq_getElem_cons hlt2
    simp only [spec_order.l0]
    rw [if_pos (by omega), if_pos (by omega), if_pos (by omega), rd_at a i hlt, rd_at b i hlt2, e, e2, lexC]
    by_cases hz : a[i] = b[i]
    · rw [if_pos hz, if_pos hz, wrap_in _ (by omega) (by omega)]
      have := ih k (i + 1) (by omega) (by omega) (by omega)
      rw [show ((i : Int) + 1) = ((i + 1 : Nat) : Int) from by omega, this]
    · rw [if_neg hz, if_neg hz]
      by_cases hl : a[i] < b[i]
      · rw [if_pos hl, if_pos hl]
      · rw [if_neg hl, if_neg hl]
theorem order_is (a b : List Int) (k : Nat) (hn : a.length < 140737488355328) (hk : a.length < k) : spec_order.f k a b = some (ordC a b) := by
  unfold spec_order.f ordC
  by_cases h : a.length = b.length
  · rw [if_pos (by omega), if_pos h]
    have := order_loop a b hn h a.length k 0 (by omega) (by omega) hk
    simpa using this
  · rw [if_neg (by omega), if_neg h]
    by_cases h2 : a.length < b.length
    · rw [if_pos (by omega), if_pos h2]
    · rw [if_neg (by omega), if_neg h2]

/-- The integer of a sign and a magnitude. -/
def val (neg : Bool) (l : List Int) : Int := if neg then - beN l else beN l
/-- A sign and a magnitude as spec.Int has them. -/
structure Good (neg : Bool) (l : List Int) : Prop where
  bytes : Bytes l
  lead : Lead l
  zero : l = [] → neg = false
  short : l.length < 70368744177664
theorem good_of (neg : Bool) (l : List Int) (h : Bytes l) (hl : l.length < 70368744177664) : Good (neg && decide (0 < (cutL l).length)) (cutL l) :=
  ⟨cutL_bytes l h, cutL_lead l, fun e => by rw [e]; simp, by have := cutL_length l; omega⟩
theorem Good.pos {neg : Bool} {l : List Int} (g : Good neg l) (h : l ≠ []) : 0 < beN l := by
  have h1 := beN_lead l g.bytes g.lead h
  have h2 := pow_pos (l.length - 1)
  omega
theorem val_of (neg : Bool) (l : List Int) (h : Bytes l) : val (neg && decide (0 < (cutL l).length)) (cutL l) = val neg l := by
  unfold val
  rw [cutL_num]
  cases neg
  · simp
  · by_cases h0 : 0 < (cutL l).length
    · simp [h0]
    · have : cutL l = [] := List.eq_nil_of_length_eq_zero (by omega)
      have h2 := cutL_num l
      rw [this, beN_nil] at h2
      simp [h0, ← h2]

theorem sign_is (neg : Bool) (l : List Int) (g : Good neg l) : spec_Int_Sign.f neg l = some (sgn (val neg l)) := by
  unfold spec_Int_Sign.f spec_Int_Zero.f
  simp only [Option.bind_some]
  by_cases h : l = []
  · subst h
    have := g.zero rfl
    subst this
    simp [val, beN, sgn]
  · have hp := g.pos h
    have hl : l.length ≠ 0 := fun e => h (List.eq_nil_of_length_eq_zero e)
    have : (decide ((l.length : Int) = 0)) = false := by simp; omega
    cases neg
    · simp [val, sgn, h]
      rw [if_neg (by omega), if_neg (by omega)]
    · have e : sgn (val true l) = -1 := by
        unfold sgn val
        rw [if_pos (by simp; omega)]
      rw [e]
      simp [h]

theorem sgn_neg (x : Int) : sgn (-x) = - sgn x := by unfold sgn; split <;> split <;> (try split) <;> omega
theorem sgn_vals (x : Int) : sgn x = -1 ∨ sgn x = 0 ∨ sgn x = 1 := by unfold sgn; split <;> (try split) <;> omega
theorem sgn_lt (x : Int) : sgn x < 0 ↔ x < 0 := by unfold sgn; split <;> (try split) <;> omega
theorem sgn_eq (x : Int) : sgn x = 0 ↔ x = 0 := by unfold sgn; split <;> (try split) <;> omega
theorem sgn_gt (x : Int) : 0 < sgn x ↔ 0 < x := by unfold sgn; split <;> (try split) <;> omega

end Go.Proofs.YtkkmnglnnfmnaaaGreatDoor
