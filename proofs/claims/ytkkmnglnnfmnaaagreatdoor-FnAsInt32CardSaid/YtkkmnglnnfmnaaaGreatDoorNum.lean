/- Plain Lean: numbers as bytes, the highest first, and as words, the lowest first. -/
import Derived.IntWalk
namespace Go.Proofs.YtkkmnglnnfmnaaaGreatDoor

/-- The number of bytes, the highest first. -/
def beN (l : List Int) : Int := l.foldl (fun a b => a * 256 + b) 0
theorem beN_nil : beN [] = 0 := rfl
theorem beN_snoc (l : List Int) (b : Int) : beN (l ++ [b]) = beN l * 256 + b := by simp [beN, List.foldl_append]
theorem be_fold (l : List Int) (a : Int) : l.foldl (fun a b => a * 256 + b) a = a * 256 ^ l.length + beN l := by
  induction l generalizing a with
  | nil => simp [beN]
  | cons x r ih =>
    simp only [List.foldl_cons, List.length_cons, beN]
    rw [ih (a * 256 + x), ih (0 * 256 + x), Int.pow_succ]
    rw [Int.add_mul, Int.zero_mul, Int.zero_add, Int.mul_comm (256 ^ r.length) 256, ← Int.mul_assoc, Int.add_assoc]
theorem beN_cons (x : Int) (r : List Int) : beN (x :: r) = x * 256 ^ r.length + beN r := by
  have : beN (x :: r) = r.foldl (fun a b => a * 256 + b) x := by simp [beN]
  rw [this, be_fold]
theorem beN_append (a b : List Int) : beN (a ++ b) = beN a * 256 ^ b.length + beN b := by
  have : beN (a ++ b) = b.foldl (fun a b => a * 256 + b) (beN a) := by simp [beN, List.foldl_append]
  rw [this, be_fold]

def Bytes (l : List Int) : Prop := ∀ x ∈ l, 0 ≤ x ∧ x < 256
theorem pow_pos (n : Nat) : (0 : Int) < 256 ^ n := Int.pow_pos (by omega)
theorem beN_bd (l : List Int) (h : Bytes l) : 0 ≤ beN l ∧ beN l < 256 ^ l.length := by
  induction l with
  | nil => simp [beN]
  | cons x r ih =>
    obtain ⟨h0, h1⟩ := ih (fun y hy => h y (List.mem_cons_of_mem _ hy))
    obtain ⟨x0, x1⟩ := h x (List.mem_cons_self)
    have hp := pow_pos r.length
    rw [beN_cons, List.length_cons, Int.pow_succ]
    have a : 0 ≤ x * 256 ^ r.length := Int.mul_nonneg x0 (Int.le_of_lt hp)
    have b : x * 256 ^ r.length ≤ 255 * 256 ^ r.length := Int.mul_le_mul_of_nonneg_right (by omega) (Int.le_of_lt hp)
    omega

/-- No zero ahead. -/
def Lead (l : List Int) : Prop := ∀ x r, l = x :: r → x ≠ 0
theorem beN_lead (l : List Int) (h : Bytes l) (hl : Lead l) (hne : l ≠ []) : 256 ^ (l.length - 1) ≤ beN l := by
  cases l with
  | nil => exact absurd rfl hne
  | cons x r =>
    obtain ⟨x0, x1⟩ := h x (List.mem_cons_self)
    have hx := hl x r rfl
    have hr := (beN_bd r (fun y hy => h y (List.mem_cons_of_mem _ hy))).1
    have hp := pow_pos r.length
    rw [beN_cons, List.length_cons, Nat.add_sub_cancel]
    have b : 1 * 256 ^ r.length ≤ x * 256 ^ r.length := Int.mul_le_mul_of_nonneg_right (by omega) (Int.le_of_lt hp)
    omega
theorem pow_le_pow (a b : Nat) (h : a ≤ b) : (256 : Int) ^ a ≤ 256 ^ b := by
  obtain ⟨c, rfl⟩ : ∃ c, b = a + c := ⟨b - a, by omega⟩
  rw [Int.pow_add]
  have := pow_pos a
  have h2 := pow_pos c
  have : (256 : Int) ^ a * 1 ≤ 256 ^ a * 256 ^ c := Int.mul_le_mul_of_nonneg_left (by omega) (by omega)
  omega
theorem beN_longer (a b : List Int) (ha : Bytes a) (hb : Bytes b) (lb : Lead b) (h : a.length < b.length) : beN a < beN b := by
  have h1 := (beN_bd a ha).2
  have h2 := beN_lead b hb lb (by intro e; rw [e] at h; simp at h)
  have h3 := pow_le_pow a.length (b.length - 1) (by omega)
  omega

/-- -1, 0, 1: less, equal, greater. -/
def sgn (x : Int) : Int := if x < 0 then -1 else if x = 0 then 0 else 1
/-- Lists of one length, compared from the front. -/
def lexC : List Int → List Int → Int
  | x :: r, y :: q => if x = y then lexC r q else if x < y then -1 else 1
  | _, _ => 0
theorem lexC_num : ∀ (a b : List Int), Bytes a → Bytes b → a.length = b.length → lexC a b = sgn (beN a - beN b) := by
  intro a
  induction a with
  | nil =>
    intro b _ _ h
    have : b = [] := by cases b with | nil => rfl | cons _ _ => simp at h
    subst this
    simp [lexC, sgn, beN]
  | cons x r ih =>
    intro b ha hb h
    cases b with
    | nil => simp at h
    | cons y q =>
      have hl : r.length = q.length := by simpa using h
      have hr : Bytes r := fun z hz => ha z (List.mem_cons_of_mem _ hz)
      have hq : Bytes q := fun z hz => hb z (List.mem_cons_of_mem _ hz)
      have e := ih q hr hq hl
      obtain ⟨r0, r1⟩ := beN_bd r hr
      obtain ⟨q0, q1⟩ := beN_bd q hq
      have hp := pow_pos q.length
      rw [beN_cons, beN_cons, hl]
      rw [hl] at r1
      unfold lexC
      by_cases hxy : x = y
      · rw [if_pos hxy, e, hxy]
        congr 1
        omega
      · rw [if_neg hxy]
        by_cases hlt : x < y
        · rw [if_pos hlt]
          have : x * 256 ^ q.length + 256 ^ q.length ≤ y * 256 ^ q.length := by
            have h3 : (x + 1) * 256 ^ q.length ≤ y * 256 ^ q.length := Int.mul_le_mul_of_nonneg_right (by omega) (Int.le_of_lt hp)
            rw [Int.add_mul, Int.one_mul] at h3
            exact h3
          unfold sgn
          rw [if_pos (by omega)]
        · rw [if_neg hlt]
          have : y * 256 ^ q.length + 256 ^ q.length ≤ x * 256 ^ q.length := by
            have h3 : (y + 1) * 256 ^ q.length ≤ x * 256 ^ q.length := Int.mul_le_mul_of_nonneg_right (by omega) (Int.le_of_lt hp)
            rw [Int.add_mul, Int.one_mul] at h3
            exact h3
          unfold sgn
          rw [if_neg (by omega), if_neg (by omega)]

/-- The order of two magnitudes without zeros ahead. -/
def ordC (a b : List Int) : Int := if a.length = b.length then lexC a b else if a.length < b.length then -1 else 1
theorem ordC_num (a b : List Int) (ha : Bytes a) (hb : Bytes b) (la : Lead a) (lb : Lead b) : ordC a b = sgn (beN a - beN b) := by
  unfold ordC
  by_cases h : a.length = b.length
  · rw [if_pos h]; exact lexC_num a b ha hb h
  · rw [if_neg h]
    by_cases h2 : a.length < b.length
    · rw [if_pos h2]
      have := beN_longer a b ha hb lb h2
      unfold sgn; rw [if_pos (by omega)]
    · rw [if_neg h2]
      have := beN_longer b a hb ha la (by omega)
      unfold sgn; rw [if_neg (by omega), if_neg (by omega)]

/-- Zeros ahead struck. -/
def cutL (l : List Int) : List Int := l.dropWhile (fun x => decide (x = 0))
theorem cutL_num (l : List Int) : beN (cutL l) = beN l := by
  unfold cutL
  induction l with
  | nil => rfl
  | cons x r ih =>
    by_cases h : x = 0
    · subst h
      rw [List.dropWhile_cons_of_pos (by simp), ih, beN_cons]; simp
    · rw [List.dropWhile_cons_of_neg (by simpa using h)]
theorem cutL_lead (l : List Int) : Lead (cutL l) := by
  unfold cutL
  induction l with
  | nil => intro x r h; simp at h
  | cons y q ih =>
    by_cases h : y = 0
    · subst h
      rw [List.dropWhile_cons_of_pos (by simp)]; exact ih
    · rw [List.dropWhile_cons_of_neg (by simpa using h)]
      intro x r e
      rw [List.cons.injEq] at e
      rw [← e.1]; exact h
theorem cutL_bytes (l : List Int) (h : Bytes l) : Bytes (cutL l) := by
  unfold cutL
  intro x hx
  exact h x ((List.dropWhile_suffix _).subset hx)
theorem cutL_length (l : List Int) : (cutL l).length ≤ l.length := by
  unfold cutL
  exact (List.dropWhile_suffix _).length_le
theorem cutL_same (l : List Int) (h : Lead l) : cutL l = l := by
  unfold cutL
  cases l with
  | nil => rfl
  | cons x r =>
    rw [List.dropWhile_cons_of_neg (by simpa using h x r rfl)]

/-- The number of words, the lowest first. -/
def leN : List Int → Int
  | [] => 0
  | x :: r => x + 18446744073709551616 * leN r

abbrev W64 : Int := 18446744073709551616
def Words (l : List Int) : Prop := ∀ x ∈ l, 0 ≤ x ∧ x < 18446744073709551616
theorem wpos (n : Nat) : (0 : Int) < 18446744073709551616 ^ n := Int.pow_pos (by omega)
theorem leN_nil : leN [] = 0 := rfl
theorem leN_cons (x : Int) (r : List Int) : leN (x :: r) = x + 18446744073709551616 * leN r := rfl
theorem leN_append (a b : List Int) : leN (a ++ b) = leN a + 18446744073709551616 ^ a.length * leN b := by
  induction a with
  | nil => simp [leN]
  | cons x r ih =>
    rw [List.cons_append, leN_cons, leN_cons, ih, List.length_cons, Int.pow_succ, Int.mul_add, Int.mul_comm (18446744073709551616 ^ r.length) 18446744073709551616, Int.mul_assoc, Int.add_assoc]
theorem leN_bd (l : List Int) (h : Words l) : 0 ≤ leN l ∧ leN l < 18446744073709551616 ^ l.length := by
  induction l with
  | nil => simp [leN]
  | cons x r ih =>
    obtain ⟨h0, h1⟩ := ih (fun y hy => h y (List.mem_cons_of_mem _ hy))
    obtain ⟨x0, x1⟩ := h x (List.mem_cons_self)
    rw [leN_cons, List.length_cons, Int.pow_succ, Int.mul_comm (18446744073709551616 ^ r.length)]
    omega
theorem leN_zeros (n : Nat) : leN (List.replicate n 0) = 0 := by
  induction n with
  | zero => rfl
  | succ n ih => rw [List.replicate_succ, leN_cons, ih]; rfl
theorem leN_set : ∀ (l : List Int) (k : Nat) (h : k < l.length) (v : Int), leN (l.set k v) = leN l + 18446744073709551616 ^ k * (v - l[k]) := by
  intro l
  induction l with
  | nil => intro k h; simp at h
  | cons x r ih =>
    intro k h v
    cases k with
    | zero => simp [leN]; omega
    | succ k =>
      have h' : k < r.length := by simpa using h
      rw [List.set_cons_succ, leN_cons, leN_cons, ih k h' v, Int.pow_succ, Int.mul_add, Int.mul_comm (18446744073709551616 ^ k) 18446744073709551616, Int.mul_assoc, Int.add_assoc]
      simp
theorem words_set (l : List Int) (k : Nat) (v : Int) (h : Words l) (h0 : 0 ≤ v) (h1 : v < 18446744073709551616) : Words (l.set k v) := by
  intro x hx
  rcases List.mem_or_eq_of_mem_set hx with hx | rfl
  · exact h x hx
  · exact ⟨h0, h1⟩
theorem words_zeros (n : Nat) : Words (List.replicate n 0) := by
  intro x hx
  rw [List.mem_replicate] at hx
  rw [hx.2]; omega
theorem leN_take (l : List Int) (i : Nat) (h : ∀ j (hj : j < l.length), i ≤ j → l[j] = 0) : leN (l.take i) = leN l := by
  have e : l = l.take i ++ l.drop i := (List.take_append_drop i l).symm
  have z : l.drop i = List.replicate (l.length - i) 0 := by
    apply List.ext_getElem
    · simp
    · intro n h1 h2
      rw [List.getElem_drop, List.getElem_replicate]
      exact h _ _ (by omega)
  conv => rhs; rw [e, leN_append, z, leN_zeros]
  simp

/-- No zero word at the end. -/
def Top (l : List Int) : Prop := ∀ h : l ≠ [], l.getLast h ≠ 0
theorem leN_top (l : List Int) (h : Words l) (ht : Top l) (hne : l ≠ []) : 18446744073709551616 ^ (l.length - 1) ≤ leN l := by
  have e := List.dropLast_concat_getLast hne
  have hx := ht hne
  have hw := h _ (List.getLast_mem hne)
  have hd : Words l.dropLast := fun y hy => h y ((List.dropLast_sublist l).subset hy)
  have h1 := (leN_bd _ hd).1
  have hl : l.dropLast.length = l.length - 1 := List.length_dropLast
  have hp := wpos (l.length - 1)
  have e2 : leN l = leN l.dropLast + 18446744073709551616 ^ (l.length - 1) * l.getLast hne := by
    conv => lhs; rw [← e]
    rw [leN_append, hl, leN_cons, leN_nil]
    simp
  have h2 : (18446744073709551616 : Int) ^ (l.length - 1) * 1 ≤ 18446744073709551616 ^ (l.length - 1) * l.getLast hne := Int.mul_le_mul_of_nonneg_left (by omega) (Int.le_of_lt hp)
  omega

theorem pow256_8 : (256 : Int) ^ 8 = 18446744073709551616 := by decide
/-- Eight bytes taken off the end of what is left. -/
theorem be_step (l : List Int) (i : Nat) (h : 8 ≤ i) (hi : i ≤ l.length) : beN (l.take i) = beN (l.take (i - 8)) * 18446744073709551616 + beN ((l.drop (i - 8)).take 8) := by
  have e : l.take i = l.take (i - 8) ++ (l.drop (i - 8)).take 8 := by
    conv => lhs; rw [show i = (i - 8) + 8 from by omega, List.take_add]
  have hl : ((l.drop (i - 8)).take 8).length = 8 := by rw [List.length_take, List.length_drop]; omega
  rw [e, beN_append, hl, pow256_8]
end Go.Proofs.YtkkmnglnnfmnaaaGreatDoor
