/- The printed texts that mine lean on. · Plain Lean: numbers as bytes, the highest first, and as words, the lowest first. · Small laws on rows of integers in memory that a call owns. · The printed functions of spec.Int, in the words of plain numbers. · A bridge between the printed words on rows of integers and mine; eight bytes as a word; the length of a word in bits. · The walks of spec.Int: cut, Of, bytesOf, Cmp. · bigall's nat: norm, make, and the words of bytes. -/
import Derived.Test.YtkplnbjgkhmbcaaGreatDoorKb
import Derived.Test.YtkplnbjgkhmbcaaGreatDoorProg
import Derived.IntWalk
import Derived.WalkKit
import Derived.WalkSpells
import Derived.BigQuiet
import Derived.Lib.Hide
import Derived.RegionTactic
import Derived.Laws.OwnMore
import Derived.Deep.QuietTactic
namespace Go.Proofs.YtkplnbjgkhmbcaaGreatDoor
end Go.Proofs.YtkplnbjgkhmbcaaGreatDoor

namespace Go.Proofs.YtkplnbjgkhmbcaaGreatDoor

/-- The number of bytes, the highest first. -/
def beN (l : List Int) : Int := l.foldl (fun a b => a * 256 + b) 0
theorem beN_nil : beN [] = 0 := rfl
theorem beN_snoc (l : List Int) (b : Int) : beN (l ++ [b]) = beN l * 256 + b := by simp [beN, List.foldl_append]
theorem be_fold (l : List Int) (a : Int) : l.foldl (fun a b => a * 256 + b) a = a * 256 ^ l.length + beN l := by
  induction l generalizing a with
  | nil => simp [beN]
  | cons x r ih =>
    simp only [List.foldl_cons, List.length_cons, beN]
    rw [ih (a * 256 + x), ih (0 * 256 + x), Int.pow_succ]
    rw [Int.add_mul, Int.zero_mul, Int.zero_add, Int.mul_comm (256 ^ r.length) 256, ← Int.mul_assoc, Int.add_assoc]
theorem beN_cons (x : Int) (r : List Int) : beN (x :: r) = x * 256 ^ r.length + beN r := by
  have : beN (x :: r) = r.foldl (fun a b => a * 256 + b) x := by simp [beN]
  rw [this, be_fold]
theorem beN_append (a b : List Int) : beN (a ++ b) = beN a * 256 ^ b.length + beN b := by
  have : beN (a ++ b) = b.foldl (fun a b => a * 256 + b) (beN a) := by simp [beN, List.foldl_append]
  rw [this, be_fold]

def Bytes (l : List Int) : Prop := ∀ x ∈ l, 0 ≤ x ∧ x < 256
theorem pow_pos (n : Nat) : (0 : Int) < 256 ^ n := Int.pow_pos (by omega)
theorem beN_bd (l : List Int) (h : Bytes l) : 0 ≤ beN l ∧ beN l < 256 ^ l.length := by
  induction l with
  | nil => simp [beN]
  | cons x r ih =>
    obtain ⟨h0, h1⟩ := ih (fun y hy => h y (List.mem_cons_of_mem _ hy))
    obtain ⟨x0, x1⟩ := h x (List.mem_cons_self)
    have hp := pow_pos r.length
    rw [beN_cons, List.length_cons, Int.pow_succ]
    have a : 0 ≤ x * 256 ^ r.length := Int.mul_nonneg x0 (Int.le_of_lt hp)
    have b : x * 256 ^ r.length ≤ 255 * 256 ^ r.length := Int.mul_le_mul_of_nonneg_right (by omega) (Int.le_of_lt hp)
    omega

/-- No zero ahead. -/
def Lead (l : List Int) : Prop := ∀ x r, l = x :: r → x ≠ 0
theorem beN_lead (l : List Int) (h : Bytes l) (hl : Lead l) (hne : l ≠ []) : 256 ^ (l.length - 1) ≤ beN l := by
  cases l with
  | nil => exact absurd rfl hne
  | cons x r =>
    obtain ⟨x0, x1⟩ := h x (List.mem_cons_self)
    have hx := hl x r rfl
    have hr := (beN_bd r (fun y hy => h y (List.mem_cons_of_mem _ hy))).1
    have hp := pow_pos r.length
    rw [beN_cons, List.length_cons, Nat.add_sub_cancel]
    have b : 1 * 256 ^ r.length ≤ x * 256 ^ r.length := Int.mul_le_mul_of_nonneg_right (by omega) (Int.le_of_lt hp)
    omega
theorem pow_le_pow (a b : Nat) (h : a ≤ b) : (256 : Int) ^ a ≤ 256 ^ b := by
  obtain ⟨c, rfl⟩ : ∃ c, b = a + c := ⟨b - a, by omega⟩
  rw [Int.pow_add]
  have := pow_pos a
  have h2 := pow_pos c
  have : (256 : Int) ^ a * 1 ≤ 256 ^ a * 256 ^ c := Int.mul_le_mul_of_nonneg_left (by omega) (by omega)
  omega
theorem beN_longer (a b : List Int) (ha : Bytes a) (hb : Bytes b) (lb : Lead b) (h : a.length < b.length) : beN a < beN b := by
  have h1 := (beN_bd a ha).2
  have h2 := beN_lead b hb lb (by intro e; rw [e] at h; simp at h)
  have h3 := pow_le_pow a.length (b.length - 1) (by omega)
  omega

/-- -1, 0, 1: less, equal, greater. -/
def sgn (x : Int) : Int := if x < 0 then -1 else if x = 0 then 0 else 1
/-- Lists of one length, compared from the front. -/
def lexC : List Int → List Int → Int
  | x :: r, y :: q => if x = y then lexC r q else if x < y then -1 else 1
  | _, _ => 0
theorem lexC_num : ∀ (a b : List Int), Bytes a → Bytes b → a.length = b.length → lexC a b = sgn (beN a - beN b) := by
  intro a
  induction a with
  | nil =>
    intro b _ _ h
    have : b = [] := by cases b with | nil => rfl | cons _ _ => simp at h
    subst this
    simp [lexC, sgn, beN]
  | cons x r ih =>
    intro b ha hb h
    cases b with
    | nil => simp at h
    | cons y q =>
      have hl : r.length = q.length := by simpa using h
      have hr : Bytes r := fun z hz => ha z (List.mem_cons_of_mem _ hz)
      have hq : Bytes q := fun z hz => hb z (List.mem_cons_of_mem _ hz)
      have e := ih q hr hq hl
      obtain ⟨r0, r1⟩ := beN_bd r hr
      obtain ⟨q0, q1⟩ := beN_bd q hq
      have hp := pow_pos q.length
      rw [beN_cons, beN_cons, hl]
      rw [hl] at r1
      unfold lexC
      by_cases hxy : x = y
      · rw [if_pos hxy, e, hxy]
        congr 1
        omega
      · rw [if_neg hxy]
        by_cases hlt : x < y
        · rw [if_pos hlt]
          have : x * 256 ^ q.length + 256 ^ q.length ≤ y * 256 ^ q.length := by
            have h3 : (x + 1) * 256 ^ q.length ≤ y * 256 ^ q.length := Int.mul_le_mul_of_nonneg_right (by omega) (Int.le_of_lt hp)
            rw [Int.add_mul, Int.one_mul] at h3
            exact h3
          unfold sgn
          rw [if_pos (by omega)]
        · rw [if_neg hlt]
          have : y * 256 ^ q.length + 256 ^ q.length ≤ x * 256 ^ q.length := by
            have h3 : (y + 1) * 256 ^ q.length ≤ x * 256 ^ q.length := Int.mul_le_mul_of_nonneg_right (by omega) (Int.le_of_lt hp)
            rw [Int.add_mul, Int.one_mul] at h3
            exact h3
          unfold sgn
          rw [if_neg (by omega), if_neg (by omega)]

/-- The order of two magnitudes without zeros ahead. -/
def ordC (a b : List Int) : Int := if a.length = b.length then lexC a b else if a.length < b.length then -1 else 1
theorem ordC_num (a b : List Int) (ha : Bytes a) (hb : Bytes b) (la : Lead a) (lb : Lead b) : ordC a b = sgn (beN a - beN b) := by
  unfold ordC
  by_cases h : a.length = b.length
  · rw [if_pos h]; exact lexC_num a b ha hb h
  · rw [if_neg h]
    by_cases h2 : a.length < b.length
    · rw [if_pos h2]
      have := beN_longer a b ha hb lb h2
      unfold sgn; rw [if_pos (by omega)]
    · rw [if_neg h2]
      have := beN_longer b a hb ha la (by omega)
      unfold sgn; rw [if_neg (by omega), if_neg (by omega)]

/-- Zeros ahead struck. -/
def cutL (l : List Int) : List Int := l.dropWhile (fun x => decide (x = 0))
theorem cutL_num (l : List Int) : beN (cutL l) = beN l := by
  unfold cutL
  induction l with
  | nil => rfl
  | cons x r ih =>
    by_cases h : x = 0
    · subst h
      rw [List.dropWhile_cons_of_pos (by simp), ih, beN_cons]; simp
    · rw [List.dropWhile_cons_of_neg (by simpa using h)]
theorem cutL_lead (l : List Int) : Lead (cutL l) := by
  unfold cutL
  induction l with
  | nil => intro x r h; simp at h
  | cons y q ih =>
    by_cases h : y = 0
    · subst h
      rw [List.dropWhile_cons_of_pos (by simp)]; exact ih
    · rw [List.dropWhile_cons_of_neg (by simpa using h)]
      intro x r e
      rw [List.cons.injEq] at e
      rw [← e.1]; exact h
theorem cutL_bytes (l : List Int) (h : Bytes l) : Bytes (cutL l) := by
  unfold cutL
  intro x hx
  exact h x ((List.dropWhile_suffix _).subset hx)
theorem cutL_length (l : List Int) : (cutL l).length ≤ l.length := by
  unfold cutL
  exact (List.dropWhile_suffix _).length_le
theorem cutL_same (l : List Int) (h : Lead l) : cutL l = l := by
  unfold cutL
  cases l with
  | nil => rfl
  | cons x r =>
    rw [List.dropWhile_cons_of_neg (by simpa using h x r rfl)]

/-- The number of words, the lowest first. -/
def leN : List Int → Int
  | [] => 0
  | x :: r => x + 18446744073709551616 * leN r

abbrev W64 : Int := 18446744073709551616
def Words (l : List Int) : Prop := ∀ x ∈ l, 0 ≤ x ∧ x < 18446744073709551616
theorem wpos (n : Nat) : (0 : Int) < 18446744073709551616 ^ n := Int.pow_pos (by omega)
theorem leN_nil : leN [] = 0 := rfl
theorem leN_cons (x : Int) (r : List Int) : leN (x :: r) = x + 18446744073709551616 * leN r := rfl
theorem leN_append (a b : List Int) : leN (a ++ b) = leN a + 18446744073709551616 ^ a.length * leN b := by
  induction a with
  | nil => simp [leN]
  | cons x r ih =>
    rw [List.cons_append, leN_cons, leN_cons, ih, List.length_cons, Int.pow_succ, Int.mul_add, Int.mul_comm (18446744073709551616 ^ r.length) 18446744073709551616, Int.mul_assoc, Int.add_assoc]
theorem leN_bd (l : List Int) (h : Words l) : 0 ≤ leN l ∧ leN l < 18446744073709551616 ^ l.length := by
  induction l with
  | nil => simp [leN]
  | cons x r ih =>
    obtain ⟨h0, h1⟩ := ih (fun y hy => h y (List.mem_cons_of_mem _ hy))
    obtain ⟨x0, x1⟩ := h x (List.mem_cons_self)
    rw [leN_cons, List.length_cons, Int.pow_succ, Int.mul_comm (18446744073709551616 ^ r.length)]
    omega
theorem leN_zeros (n : Nat) : leN (List.replicate n 0) = 0 := by
  induction n with
  | zero => rfl
  | succ n ih => rw [List.replicate_succ, leN_cons, ih]; rfl
theorem leN_set : ∀ (l : List Int) (k : Nat) (h : k < l.length) (v : Int), leN (l.set k v) = leN l + 18446744073709551616 ^ k * (v - l[k]) := by
  intro l
  induction l with
  | nil => intro k h; simp at h
  | cons x r ih =>
    intro k h v
    cases k with
    | zero => simp [leN]; omega
    | succ k =>
      have h' : k < r.length := by simpa using h
      rw [List.set_cons_succ, leN_cons, leN_cons, ih k h' v, Int.pow_succ, Int.mul_add, Int.mul_comm (18446744073709551616 ^ k) 18446744073709551616, Int.mul_assoc, Int.add_assoc]
      simp
theorem words_set (l : List Int) (k : Nat) (v : Int) (h : Words l) (h0 : 0 ≤ v) (h1 : v < 18446744073709551616) : Words (l.set k v) := by
  intro x hx
  rcases List.mem_or_eq_of_mem_set hx with hx | rfl
  · exact h x hx
  · exact ⟨h0, h1⟩
theorem words_zeros (n : Nat) : Words (List.replicate n 0) := by
  intro x hx
  rw [List.mem_replicate] at hx
  rw [hx.2]; omega
theorem leN_take (l : List Int) (i : Nat) (h : ∀ j (hj : j < l.length), i ≤ j → l[j] = 0) : leN (l.take i) = leN l := by
  have e : l = l.take i ++ l.drop i := (List.take_append_drop i l).symm
  have z : l.drop i = List.replicate (l.length - i) 0 := by
    apply List.ext_getElem
    · simp
    · intro n h1 h2
      rw [List.getElem_drop, List.getElem_replicate]
      exact h _ _ (by omega)
  conv => rhs; rw [e, leN_append, z, leN_zeros]
  simp

/-- No zero word at the end. -/
def Top (l : List Int) : Prop := ∀ h : l ≠ [], l.getLast h ≠ 0
theorem leN_top (l : List Int) (h : Words l) (ht : Top l) (hne : l ≠ []) : 18446744073709551616 ^ (l.length - 1) ≤ leN l := by
  have e := List.dropLast_concat_getLast hne
  have hx := ht hne
  have hw := h _ (List.getLast_mem hne)
  have hd : Words l.dropLast := fun y hy => h y ((List.dropLast_sublist l).subset hy)
  have h1 := (leN_bd _ hd).1
  have hl : l.dropLast.length = l.length - 1 := List.length_dropLast
  have hp := wpos (l.length - 1)
  have e2 : leN l = leN l.dropLast + 18446744073709551616 ^ (l.length - 1) * l.getLast hne := by
    conv => lhs; rw [← e]
    rw [leN_append, hl, leN_cons, leN_nil]
    simp
  have h2 : (18446744073709551616 : Int) ^ (l.length - 1) * 1 ≤ 18446744073709551616 ^ (l.length - 1) * l.getLast hne := Int.mul_le_mul_of_nonneg_left (by omega) (Int.le_of_lt hp)
  omega

theorem pow256_8 : (256 : Int) ^ 8 = 18446744073709551616 := by decide
/-- Eight bytes taken off the end of what is left. -/
theorem be_step (l : List Int) (i : Nat) (h : 8 ≤ i) (hi : i ≤ l.length) : beN (l.take i) = beN (l.take (i - 8)) * 18446744073709551616 + beN ((l.drop (i - 8)).take 8) := by
  have e : l.take i = l.take (i - 8) ++ (l.drop (i - 8)).take 8 := by
    conv => lhs; rw [show i = (i - 8) + 8 from by omega, List.take_add]
  have hl : ((l.drop (i - 8)).take 8).length = 8 := by rw [List.length_take, List.length_drop]; omega
  rw [e, beN_append, hl, pow256_8]
end Go.Proofs.YtkplnbjgkhmbcaaGreatDoor

namespace Go.Proofs.YtkplnbjgkhmbcaaGreatDoor
open Go.RowKit
set_option linter.unusedVariables false

/-- Block b's first cells are the integers l of a kind, none of them frozen. -/
def IRow (k : IntKind) (w : World) (b : Nat) (l : List Int) : Prop :=
  (∀ j (h : j < l.length), w.cell? ⟨b, j, none⟩ = some (.int k l[j])) ∧ ∀ j, j < l.length → w.frozen? ⟨b, j, none⟩ = false

theorem IRow.drew {k : IntKind} {w : World} {b : Nat} {l : List Int} (h : IRow k w b l) : IRow k w.drew b l := h

theorem lt_of_cell {w : World} {b j : Nat} {v : Value} (h : w.cell? ⟨b, j, none⟩ = some v) : b < w.heap.size := by
  rcases Nat.lt_or_ge b w.heap.size with h1 | h1
  · exact h1
  · simp [World.cell?, Array.getElem?_eq_none h1] at h

theorem IRow.below {k : IntKind} {w w' : World} {b B : Nat} {l : List Int} (h : IRow k w b l) (hb : Below B w w') (hB : b < B) : IRow k w' b l :=
  ⟨fun j hj => by rw [hb.cell (p := ⟨b, j, none⟩) hB]; exact h.1 j hj, fun j hj => by rw [hb.frozen (p := ⟨b, j, none⟩) hB]; exact h.2 j hj⟩

theorem cell_setCell_ne (w : World) (p q : Addr) (v : Value) (h : p.block ≠ q.block ∨ p.off ≠ q.off) : (w.setCell p v).cell? q = w.cell? q := by
  simp only [World.cell?, World.setCell, Array.getElem?_modify]
  by_cases hb : p.block = q.block
  · have ho : p.off ≠ q.off := by rcases h with h | h; exact absurd hb h; exact h
    rw [if_pos hb]
    cases w.heap[q.block]? with
    | none => rfl
    | some o =>
      cases o <;> simp
      split
      · rfl
      · split
        · rfl
        · rw [Array.getElem?_setIfInBounds_ne ho]
  · rw [if_neg hb]

theorem frozen_setCell (w : World) (p q : Addr) (v : Value) : (w.setCell p v).frozen? q = w.frozen? q := by
  by_cases e : p.block = q.block
  · simp only [World.frozen?, World.setCell, Array.getElem?_modify]
    rw [if_pos e]
    cases w.heap[q.block]? with
    | none => rfl
    | some o => cases o <;> simp
  · simp only [World.frozen?, World.setCell, Array.getElem?_modify]
    rw [if_neg e]

theorem cell_setCell_eq (w : World) (b j : Nat) (u v : Value) (h : w.cell? ⟨b, j, none⟩ = some u) : (w.setCell ⟨b, j, none⟩ v).cell? ⟨b, j, none⟩ = some v := by
  simp only [World.cell?, World.setCell, Array.getElem?_modify] at h ⊢
  cases hh : w.heap[b]? with
  | none => simp [hh] at h
  | some o =>
    cases o <;> simp [hh] at h ⊢
    · obtain ⟨hj, _⟩ := Array.getElem?_eq_some_iff.1 h
      rw [Array.getElem?_setIfInBounds_self_of_lt hj]

theorem IRow.set {k : IntKind} {w : World} {b : Nat} {l : List Int} (h : IRow k w b l) (j : Nat) (hj : j < l.length) (v : Int) :
    IRow k (w.setCell ⟨b, j, none⟩ (.int k v)) b (l.set j v) := by
  refine ⟨fun i hi => ?_, fun i hi => ?_⟩
  · have hi' : i < l.length := by simpa using hi
    by_cases e : j = i
    · subst e
      rw [cell_setCell_eq w b j _ _ (h.1 j hj)]
      simp
    · rw [cell_setCell_ne w ⟨b, j, none⟩ ⟨b, i, none⟩ _ (Or.inr e), h.1 i hi']
      simp [List.getElem_set_ne e]
  · rw [frozen_setCell]
    exact h.2 i (by simpa using hi)

theorem IRow.setOther {k : IntKind} {w : World} {b : Nat} {l : List Int} (h : IRow k w b l) (p : Addr) (v : Value) (hp : p.block ≠ b) : IRow k (w.setCell p v) b l :=
  ⟨fun j hj => by rw [cell_setCell_ne w p ⟨b, j, none⟩ v (Or.inl hp)]; exact h.1 j hj, fun j hj => by rw [frozen_setCell]; exact h.2 j hj⟩

theorem IRow.alloc {k : IntKind} {w : World} {b : Nat} {l : List Int} (h : IRow k w b l) (hb : b < w.heap.size) (o : Obj) : IRow k (w.alloc o) b l :=
  h.below ((Below.refl w.heap.size w).alloc (Nat.le_refl _) o) hb

/-- A store into an owned row, and what it leaves. -/
theorem irow_step {k : IntKind} {W wr : World} {B b : Nat} {l : List Int} {j : Nat} {v : Int} (hr : IRow k wr b l) (hj : j < l.length) (hb : Below B W wr) (hB : B ≤ b) :
    wr.cell? ⟨b, j, none⟩ = some (.int k l[j]) ∧ wr.frozen? ⟨b, j, none⟩ = false ∧
    IRow k (wr.setCell ⟨b, j, none⟩ (.int k v)) b (l.set j v) ∧ Below B W (wr.setCell ⟨b, j, none⟩ (.int k v)) :=
  ⟨hr.1 j hj, hr.2 j hj, hr.set j hj v, hb.setCell hB _⟩

theorem bcell {W w1 : World} (hb : Below W.heap.size W w1) : (∀ b o, b < W.heap.size → w1.cell? ⟨b, o, none⟩ = W.cell? ⟨b, o, none⟩) ∧ (∀ b o, b < W.heap.size → w1.frozen? ⟨b, o, none⟩ = W.frozen? ⟨b, o, none⟩) :=
  ⟨fun b o h => hb.cell (p := ⟨b, o, none⟩) h, fun b o h => hb.frozen (p := ⟨b, o, none⟩) h⟩

theorem add_off (b j : Nat) : (⟨b, 0, none⟩ : Addr).add j = ⟨b, j, none⟩ := by
  unfold Addr.add; split <;> simp_all

/-- A slice value that holds integers of a kind. -/
def ISl (k : IntKind) (w : World) (v : Value) (l : List Int) : Prop :=
  ∃ A c, v = .slice A l.length c ∧ l.length ≤ c ∧ c ≤ 9223372036854775807 ∧ (l ≠ [] → ∃ b o, A = some ⟨b, o, none⟩ ∧ b < w.heap.size ∧ ∀ j (h : j < l.length), w.cell? ⟨b, o + j, none⟩ = some (.int k l[j]))
theorem ISl.below {k : IntKind} {w w' : World} {v : Value} {l : List Int} (h : ISl k w v l) (hb : Below w.heap.size w w') : ISl k w' v l := by
  obtain ⟨A, c, rfl, h1, h2, h3⟩ := h
  refine ⟨A, c, rfl, h1, h2, fun hne => ?_⟩
  obtain ⟨b, o, rfl, hlt, hc⟩ := h3 hne
  exact ⟨b, o, rfl, Nat.lt_of_lt_of_le hlt hb.size, fun j hj => by rw [hb.cell (p := ⟨b, o + j, none⟩) hlt]; exact hc j hj⟩
theorem ISl.nil (k : IntKind) (w : World) : ISl k w (.slice none 0 0) [] := ⟨none, 0, rfl, Nat.le_refl _, by omega, fun h => absurd rfl h⟩
theorem IRow.sl {k : IntKind} {w : World} {b c : Nat} {l : List Int} (h : IRow k w b l) (hb : b < w.heap.size) (h1 : l.length ≤ c) (h2 : c ≤ 9223372036854775807) : ISl k w (.slice (some ⟨b, 0, none⟩) l.length c) l :=
  ⟨_, _, rfl, h1, h2, fun _ => ⟨b, 0, rfl, hb, fun j hj => by rw [Nat.zero_add]; exact h.1 j hj⟩⟩

end Go.Proofs.YtkplnbjgkhmbcaaGreatDoor

namespace Go.Proofs.YtkplnbjgkhmbcaaGreatDoor
open Go.RowKit Go.Proofs.YtkplnbjgkhmbcaaGreatDoorW.PrintWords Go.Proofs.YtkplnbjgkhmbcaaGreatDoorW.PrintLast Go.Proofs.YtkplnbjgkhmbcaaGreatDoorW.PrintMore Go.Proofs.YtkplnbjgkhmbcaaGreatDoor.PFnCompare Go.Proofs.YtkplnbjgkhmbcaaGreatDoor.PCmp Go.Proofs.YtkplnbjgkhmbcaaGreatDoor.PbytesOf Go.Proofs.YtkplnbjgkhmbcaaGreatDoor.Pcmp
set_option linter.unusedVariables false

theorem wrap_in (i : Int) (h0 : -9223372036854775808 ≤ i) (h1 : i ≤ 9223372036854775807) : wrap64 i = i := by unfold wrap64; omega
theorem rd_at (l : List Int) (i : Nat) (h : i < l.length) : rd l (i : Int) = l[i] := by
  unfold rd
  rw [Int.toNat_natCast, List.getD_eq_getElem?_getD, List.getElem?_eq_getElem h]
  rfl

theorem cut_loop (l : List Int) (hn : l.length < 140737488355328) : ∀ (d : Nat) (k i : Nat), i ≤ l.length → l.length - i = d → d < k → spec_cut.l0 k l (i : Int) = some ((l.drop i).dropWhile (fun x => decide (x = 0))) := by
  intro d
  induction d with
  | zero =>
    intro k i hi hd hk
    obtain ⟨k, rfl⟩ : ∃ m, k = m + 1 := ⟨k - 1, by omega⟩
    obtain rfl : i = l.length := by omega
    simp only [spec_cut.l0]
    rw [if_neg (by omega)]
    simp
  | succ d ih =>
    intro k i hi hd hk
    obtain ⟨k, rfl⟩ : ∃ m, k = m + 1 := ⟨k - 1, by omega⟩
    have hlt : i < l.length := by omega
    have e : l.drop i = l[i] :: l.drop (i + 1) := List.drop_eq_getElem_cons hlt
    simp only [spec_cut.l0]
    rw [if_pos (by omega), if_pos (by omega), rd_at l i hlt]
    by_cases hz : l[i] = 0
    · rw [if_pos hz, wrap_in _ (by omega) (by omega)]
      have := ih k (i + 1) (by omega) (by omega) (by omega)
      rw [show ((i : Int) + 1) = ((i + 1 : Nat) : Int) from by omega, this, e, List.dropWhile_cons_of_pos (by simpa using hz)]
    · rw [if_neg hz, e, List.dropWhile_cons_of_neg (by simpa using hz), ← e]
      simp only [Option.bind_some]
      rw [if_pos (by omega), if_pos (by simp; omega)]
      simp
theorem cut_is (l : List Int) (k : Nat) (hn : l.length < 140737488355328) (hk : l.length < k) : spec_cut.f k l = some (cutL l) := by
  have := cut_loop l hn l.length k 0 (by omega) (by omega) hk
  unfold spec_cut.f
  simpa [cutL] using this
/-- The eight bytes of a number below 2^64. -/
def bytes8 (u : Int) : List Int := [u / 72057594037927936 % 256, u / 281474976710656 % 256, u / 1099511627776 % 256, u / 4294967296 % 256, u / 16777216 % 256, u / 65536 % 256, u / 256 % 256, u % 256]
theorem bytes8_bytes (u : Int) (h : 0 ≤ u) : Bytes (bytes8 u) := by
  intro x hx
  simp only [bytes8, List.mem_cons, List.not_mem_nil, or_false] at hx
  rcases hx with rfl | rfl | rfl | rfl | rfl | rfl | rfl | rfl <;> omega
theorem bytes8_num (u : Int) (h : 0 ≤ u) (h1 : u < 18446744073709551616) : beN (bytes8 u) = u := by
  simp only [beN, bytes8, List.foldl_cons, List.foldl_nil]
  omega
theorem bytesOf_is (u : Int) (k : Nat) (hk : 9 < k) : spec_bytesOf.f k u = some (bytes8 u) := by
  obtain ⟨k, rfl⟩ : ∃ m, k = m + 9 := ⟨k - 9, by omega⟩
  unfold spec_bytesOf.f
  rw [if_pos (by omega)]
  simp [spec_bytesOf.l0, wrap64, bytes8, List.replicate]
  omega

theorem order_loop (a b : List Int) (hn : a.length < 140737488355328) (hab : a.length = b.length) : ∀ (d : Nat) (k i : Nat), i ≤ a.length → a.length - i = d → d < k → spec_order.l0 k a b (i : Int) = some (lexC (a.drop i) (b.drop i)) := by
  intro d
  induction d with
  | zero =>
    intro k i hi hd hk
    obtain ⟨k, rfl⟩ : ∃ m, k = m + 1 := ⟨k - 1, by omega⟩
    obtain rfl : i = a.length := by omega
    simp only [spec_order.l0]
    rw [if_neg (by omega), List.drop_length]
    rfl
  | succ d ih =>
    intro k i hi hd hk
    obtain ⟨k, rfl⟩ : ∃ m, k = m + 1 := ⟨k - 1, by omega⟩
    have hlt : i < a.length := by omega
    have hlt2 : i < b.length := by omega
    have e : a.drop i = a[i] :: a.drop (i + 1) := List.drop_eq_getElem_cons hlt
    have e2 : b.drop i = b[i] :: b.drop (i + 1) := List.drop_eq_getElem_cons hlt2
    simp only [spec_order.l0]
    rw [if_pos (by omega), if_pos (by omega), if_pos (by omega), rd_at a i hlt, rd_at b i hlt2, e, e2, lexC]
    by_cases hz : a[i] = b[i]
    · rw [if_pos hz, if_pos hz, wrap_in _ (by omega) (by omega)]
      have := ih k (i + 1) (by omega) (by omega) (by omega)
      rw [show ((i : Int) + 1) = ((i + 1 : Nat) : Int) from by omega, this]
    · rw [if_neg hz, if_neg hz]
      by_cases hl : a[i] < b[i]
      · rw [if_pos hl, if_pos hl]
      · rw [if_neg hl, if_neg hl]
theorem order_is (a b : List Int) (k : Nat) (hn : a.length < 140737488355328) (hk : a.length < k) : spec_order.f k a b = some (ordC a b) := by
  unfold spec_order.f ordC
  by_cases h : a.length = b.length
  · rw [if_pos (by omega), if_pos h]
    have := order_loop a b hn h a.length k 0 (by omega) (by omega) hk
    simpa using this
  · rw [if_neg (by omega), if_neg h]
    by_cases h2 : a.length < b.length
    · rw [if_pos (by omega), if_pos h2]
    · rw [if_neg (by omega), if_neg h2]

/-- The integer of a sign and a magnitude. -/
def val (neg : Bool) (l : List Int) : Int := if neg then - beN l else beN l
/-- A sign and a magnitude as spec.Int has them. -/
structure Good (neg : Bool) (l : List Int) : Prop where
  bytes : Bytes l
  lead : Lead l
  zero : l = [] → neg = false
  short : l.length < 70368744177664
theorem good_of (neg : Bool) (l : List Int) (h : Bytes l) (hl : l.length < 70368744177664) : Good (neg && decide (0 < (cutL l).length)) (cutL l) :=
  ⟨cutL_bytes l h, cutL_lead l, fun e => by rw [e]; simp, by have := cutL_length l; omega⟩
theorem Good.pos {neg : Bool} {l : List Int} (g : Good neg l) (h : l ≠ []) : 0 < beN l := by
  have h1 := beN_lead l g.bytes g.lead h
  have h2 := pow_pos (l.length - 1)
  omega
theorem val_of (neg : Bool) (l : List Int) (h : Bytes l) : val (neg && decide (0 < (cutL l).length)) (cutL l) = val neg l := by
  unfold val
  rw [cutL_num]
  cases neg
  · simp
  · by_cases h0 : 0 < (cutL l).length
    · simp [h0]
    · have : cutL l = [] := List.eq_nil_of_length_eq_zero (by omega)
      have h2 := cutL_num l
      rw [this, beN_nil] at h2
      simp [h0, ← h2]

theorem sign_is (neg : Bool) (l : List Int) (g : Good neg l) : spec_Int_Sign.f neg l = some (sgn (val neg l)) := by
  unfold spec_Int_Sign.f spec_Int_Zero.f
  simp only [Option.bind_some]
  by_cases h : l = []
  · subst h
    have := g.zero rfl
    subst this
    simp [val, beN, sgn]
  · have hp := g.pos h
    have hl : l.length ≠ 0 := fun e => h (List.eq_nil_of_length_eq_zero e)
    have : (decide ((l.length : Int) = 0)) = false := by simp; omega
    cases neg
    · simp [val, sgn, h]
      rw [if_neg (by omega), if_neg (by omega)]
    · have e : sgn (val true l) = -1 := by
        unfold sgn val
        rw [if_pos (by simp; omega)]
      rw [e]
      simp [h]

theorem sgn_neg (x : Int) : sgn (-x) = - sgn x := by unfold sgn; split <;> split <;> (try split) <;> omega
theorem sgn_vals (x : Int) : sgn x = -1 ∨ sgn x = 0 ∨ sgn x = 1 := by unfold sgn; split <;> (try split) <;> omega
theorem sgn_lt (x : Int) : sgn x < 0 ↔ x < 0 := by unfold sgn; split <;> (try split) <;> omega
theorem sgn_eq (x : Int) : sgn x = 0 ↔ x = 0 := by unfold sgn; split <;> (try split) <;> omega
theorem sgn_gt (x : Int) : 0 < sgn x ↔ 0 < x := by unfold sgn; split <;> (try split) <;> omega

end Go.Proofs.YtkplnbjgkhmbcaaGreatDoor

namespace Go.Proofs.YtkplnbjgkhmbcaaGreatDoor
open Go.RowKit Go.Proofs.YtkplnbjgkhmbcaaGreatDoorW.PrintWords Go.Proofs.YtkplnbjgkhmbcaaGreatDoorW.PrintLast Go.Proofs.YtkplnbjgkhmbcaaGreatDoorW.PrintMore Go.Proofs.YtkplnbjgkhmbcaaGreatDoor.PFnCompare Go.Proofs.YtkplnbjgkhmbcaaGreatDoor.PCmp Go.Proofs.YtkplnbjgkhmbcaaGreatDoor.PbytesOf Go.Proofs.YtkplnbjgkhmbcaaGreatDoor.Pcmp
set_option linter.unusedVariables false

theorem c_mk {k : IntKind} {w : World} {b o : Nat} {l : List Int} (h1 : l.length ≤ 9223372036854775807) (h : ∀ j (h : j < l.length), w.cell? ⟨b, o + j, none⟩ = some (.int k l[j])) :
    Kd.C (Kd.int k) w (some ⟨b, o, none⟩) l.length l := by
  refine ⟨rfl, h1, fun _ => ⟨_, rfl, fun j p hp => ⟨[.int k p], rfl, rfl, fun i u hu => ?_⟩⟩⟩
  obtain ⟨hj, rfl⟩ := List.getElem?_eq_some_iff.1 hp
  have hi : i = 0 := by
    rcases i with _ | i
    · rfl
    · simp at hu
  subst hi
  have hu' : Value.int k l[j] = u := by simpa using hu
  rw [← hu', ← h j hj]
  congr 1
  show Addr.add _ (j * 1 + 0) = _
  unfold Addr.add
  split
  · simp_all
  · simp
theorem c_nil {k : IntKind} {w : World} : Kd.C (Kd.int k) w none 0 [] := ⟨rfl, by omega, fun h => absurd h (by omega)⟩
theorem c_get {k : IntKind} {w : World} {A : Option Addr} {l : List Int} (h : Kd.C (Kd.int k) w A l.length l) (hne : l ≠ []) :
    ∃ b o, A = some ⟨b, o, none⟩ ∧ ∀ j (h : j < l.length), w.cell? ⟨b, o + j, none⟩ = some (.int k l[j]) := by
  have hpos : 0 < l.length := List.length_pos_iff.2 hne
  obtain ⟨ad, rfl, hc⟩ := h.2.2 hpos
  have cell : ∀ j (h : j < l.length), w.cell? (ad.add j) = some (.int k l[j]) := by
    intro j hj
    obtain ⟨c, h1, h2, h3⟩ := hc j _ (List.getElem?_eq_getElem hj)
    have h2' : c = [.int k l[j]] := h2
    have := h3 0 (.int k l[j]) (by rw [h2']; rfl)
    rw [show j * (Kd.int k).sz + 0 = j from by show j * 1 + 0 = j; omega] at this
    exact this
  obtain ⟨b, o, sp⟩ := ad
  have h0 := cell 0 hpos
  have hs : sp = none := by
    have e : (⟨b, o, sp⟩ : Addr).add 0 = ⟨b, o, sp⟩ := by unfold Addr.add; simp
    rw [e] at h0
    unfold World.cell? at h0
    split at h0
    · split at h0
      · cases h0
      · rename_i hn; cases sp with
        | none => rfl
        | some x => exact absurd rfl hn
    · cases h0
  subst hs
  refine ⟨b, o, rfl, fun j hj => ?_⟩
  have := cell j hj
  rw [← this]
  congr 1
  unfold Addr.add
  split
  · simp_all
  · rfl
theorem isl_c {k : IntKind} {w : World} {v : Value} {l : List Int} (h : ISl k w v l) : ∃ A c, v = .slice A l.length c ∧ l.length ≤ c ∧ c ≤ 9223372036854775807 ∧ Kd.C (Kd.int k) w A l.length l := by
  obtain ⟨A, c, rfl, h1, h2, h3⟩ := h
  refine ⟨A, c, rfl, h1, h2, ?_⟩
  by_cases hne : l = []
  · subst hne
    exact ⟨rfl, by simp, fun h => absurd h (by simp)⟩
  · obtain ⟨b, o, rfl, _, hc⟩ := h3 hne
    exact c_mk (by omega) hc

/-- A slice of integers in blocks from B on. -/
def Sl (k : IntKind) (B : Nat) (w : World) (v : Value) (l : List Int) : Prop :=
  ∃ A c, v = .slice A l.length c ∧ l.length ≤ c ∧ l.length ≤ 9223372036854775807 ∧ (l ≠ [] → ∃ b o, A = some ⟨b, o, none⟩ ∧ B ≤ b ∧ b < w.heap.size ∧ ∀ j (h : j < l.length), w.cell? ⟨b, o + j, none⟩ = some (.int k l[j]))
section
variable {k : IntKind} {B B' : Nat} {w w' : World} {v : Value} {l : List Int}
theorem Sl.mono (h : Sl k B w v l) (hB : B' ≤ B) : Sl k B' w v l := by
  obtain ⟨A, c, rfl, h1, h2, h3⟩ := h
  exact ⟨A, c, rfl, h1, h2, fun hne => by obtain ⟨b, o, rfl, hb, hlt, hc⟩ := h3 hne; exact ⟨b, o, rfl, Nat.le_trans hB hb, hlt, hc⟩⟩
theorem Sl.below (h : Sl k B w v l) (hb : Below w.heap.size w w') : Sl k B w' v l := by
  obtain ⟨A, c, rfl, h1, h2, h3⟩ := h
  exact ⟨A, c, rfl, h1, h2, fun hne => by obtain ⟨b, o, rfl, hB, hlt, hc⟩ := h3 hne; exact ⟨b, o, rfl, hB, Nat.lt_of_lt_of_le hlt hb.size, fun j hj => by rw [hb.cell (p := ⟨b, o + j, none⟩) hlt]; exact hc j hj⟩⟩
theorem Sl.setCell (h : Sl k B w v l) {p : Addr} (u : Value) (hp : p.block < B) : Sl k B (w.setCell p u) v l := by
  obtain ⟨A, c, rfl, h1, h2, h3⟩ := h
  exact ⟨A, c, rfl, h1, h2, fun hne => by obtain ⟨b, o, rfl, hB, hlt, hc⟩ := h3 hne; exact ⟨b, o, rfl, hB, by simpa [World.setCell] using hlt, fun j hj => by rw [cell_setCell_ne w p ⟨b, o + j, none⟩ u (Or.inl (by show p.block ≠ b; omega))]; exact hc j hj⟩⟩
theorem Sl.alloc (h : Sl k B w v l) (o : Obj) : Sl k B (w.alloc o) v l := h.below ((Below.refl w.heap.size w).alloc (Nat.le_refl _) o)
theorem Sl.drew (h : Sl k B w v l) : Sl k B w.drew v l := h
theorem Sl.c (h : Sl k B w v l) : ∃ A c, v = .slice A l.length c ∧ l.length ≤ c ∧ Kd.C (Kd.int k) w A l.length l := by
  obtain ⟨A, c, rfl, h1, h2, h3⟩ := h
  refine ⟨A, c, rfl, h1, ?_⟩
  by_cases hne : l = []
  · subst hne
    exact ⟨rfl, by simp, fun h => absurd h (by simp)⟩
  · obtain ⟨b, o, rfl, _, _, hc⟩ := h3 hne
    exact c_mk h2 hc
theorem Sl.nil : Sl k B w (.slice none 0 0) [] := ⟨none, 0, rfl, Nat.le_refl _, by simp, fun h => absurd rfl h⟩
theorem r_sl {e base : Nat} {ok : Nat → Prop} (h : Kd.R (Kd.int k) e w base ok v l) : Sl k base w v l := by
  obtain ⟨A, c, rfl, h1, hC⟩ := Kd.R_reads h
  refine ⟨A, c, rfl, h1, hC.2.1, fun hne => ?_⟩
  obtain ⟨b, o, rfl, hc⟩ := c_get hC hne
  obtain ⟨_, inner, ho, _⟩ := h
  exact ⟨b, o, rfl, own_base ho b rfl, own_lt ho b rfl, hc⟩
theorem IRow.sl' (h : IRow k w B l) (hb : B < w.heap.size) {c : Nat} (h1 : l.length ≤ c) (h2 : l.length ≤ 9223372036854775807) : Sl k B w (.slice (some ⟨B, 0, none⟩) l.length c) l :=
  ⟨_, _, rfl, h1, h2, fun _ => ⟨B, 0, rfl, Nat.le_refl _, hb, fun j hj => by rw [Nat.zero_add]; exact h.1 j hj⟩⟩
end
end Go.Proofs.YtkplnbjgkhmbcaaGreatDoor

namespace Go.Proofs.YtkplnbjgkhmbcaaGreatDoor
open Go.RowKit Go.Proofs.YtkplnbjgkhmbcaaGreatDoorW.PrintWords Go.Proofs.YtkplnbjgkhmbcaaGreatDoorW.PrintLast Go.Proofs.YtkplnbjgkhmbcaaGreatDoorW.PrintMore Go.Proofs.YtkplnbjgkhmbcaaGreatDoor.PFnCompare Go.Proofs.YtkplnbjgkhmbcaaGreatDoor.PCmp Go.Proofs.YtkplnbjgkhmbcaaGreatDoor.PbytesOf Go.Proofs.YtkplnbjgkhmbcaaGreatDoor.Pcmp
set_option linter.unusedVariables false
set_option linter.unusedSimpArgs false

theorem cut_c (B : Nat) (v : Value) (l : List Int) (w : World) (h : Sl .u8 B w v l) (hn : l.length < 140737488355328) :
    Calls Tryz.prog 51 #[v] w fun e w' => ∃ v', e = .returned v' ∧ Sl .u8 w.heap.size w' v' (cutL l) ∧ Below w.heap.size w w' := by
  obtain ⟨A, c, rfl, h1, hC⟩ := h.c
  refine (spec_cut.calls (l.length + 1) A c l _ w hC h1 (cut_is l _ hn (by omega))).mono ?_
  rintro e w' ⟨v', rfl, hr, hb⟩
  exact ⟨v', rfl, r_sl hr, hb⟩

/-- The value of a spec.Int. -/
def SInt (B : Nat) (w : World) (v : Value) (n : Bool) (l : List Int) : Prop := ∃ s, v = .agg #[.bool n, s] ∧ Sl .u8 B w s l

theorem sint_sl {B : Nat} {w : World} {s : Value} {n : Bool} {l : List Int} (h : SInt B w (.agg #[.bool n, s]) n l) : Sl .u8 B w s l := by
  obtain ⟨s', e, h⟩ := h
  simp at e
  subst e
  exact h

set_option maxRecDepth 100000 in
theorem of_c (neg : Bool) (B : Nat) (v : Value) (l : List Int) (w : World) (h : Sl .u8 B w v l) (hn : l.length < 140737488355328) :
    Calls Tryz.prog 24 #[.bool neg, v] w fun e w' => ∃ v', e = .returned v' ∧ SInt w.heap.size w' v' (neg && decide (0 < (cutL l).length)) (cutL l) ∧ Below w.heap.size w w' := by
  have H := Lib.hid h
  clear h
  have hb0 : ∀ o, Below w.heap.size w (w.alloc o) := fun o => (Below.refl w.heap.size w).alloc (Nat.le_refl _) o
  cases neg
  all_goals
    go_enter Tryz.func24, Tryz.ntmps24
    go_wp2_with (go_at_call 51; refine (cut_c B v l _ (H.out.alloc _) hn).mono ?_; rintro e w1 ⟨v1, rfl, hs1, hb1⟩; have HS := Lib.hid hs1; have HB := Lib.hid hb1; obtain ⟨A1, c1, hv1, _⟩ := hs1.c; subst hv1; obtain ⟨hc1, hf1⟩ := bcell hb1; have hsz1 := hb1.size; clear hs1 hb1)
  all_goals
    refine bodyPost_ret (v := .agg #[.bool _, .slice A1 (cutL l).length c1]) (by simp [results, Tryz.results24, go_sem, hc1]) rfl ⟨_, rfl, ⟨_, rfl, ?_⟩, ?_⟩
    · exact ((HS.out.setCell (p := ⟨w.heap.size, 0, none⟩) _ (by simp)).setCell (p := ⟨w.heap.size, 1, none⟩) _ (by simp)).mono (by simp)
    · exact (((hb0 _).trans (HB.out.mono (by simp))).setCell (Nat.le_refl _) _).setCell (Nat.le_refl _) _

set_option maxRecDepth 100000 in
theorem bytesOf_c (u : Int) (w : World) : Calls Tryz.prog 127 #[.int .u64 u] w fun e w' => ∃ v', e = .returned v' ∧ Sl .u8 w.heap.size w' v' (bytes8 u) ∧ Below w.heap.size w w' := by
  refine (spec_bytesOf.calls 10 u _ w (bytesOf_is u 10 (by omega))).mono ?_
  rintro e w' ⟨v', rfl, hr, hb⟩
  exact ⟨v', rfl, r_sl hr, hb⟩

theorem cmp_num (n1 n2 : Bool) (a b : List Int) (ga : Good n1 a) (gb : Good n2 b) :
    sgn (val n1 a - val n2 b) = if sgn (val n1 a) = sgn (val n2 b) then (if n1 then sgn (beN b - beN a) else sgn (beN a - beN b)) else if sgn (val n1 a) < sgn (val n2 b) then -1 else 1 := by
  have sa := ga.short
  have sb := gb.short
  by_cases hs : sgn (val n1 a) = sgn (val n2 b)
  · rw [if_pos hs]
    by_cases hn : n1 = true
    · subst hn
      rw [if_pos rfl]
      have ha : a ≠ [] := fun e => by have := ga.zero e; cases this
      have hp := ga.pos ha
      have h1 : val true a < 0 := by simp [val]; omega
      have h2 : val n2 b < 0 := by rw [← sgn_lt, ← hs, sgn_lt]; exact h1
      have h3 : n2 = true := by
        cases n2
        · have := (beN_bd b gb.bytes).1; simp [val] at h2; omega
        · rfl
      subst h3
      simp [val]
      congr 1; omega
    · have hn' : n1 = false := by simpa using hn
      subst hn'
      rw [if_neg (by simp)]
      have h1 : 0 ≤ val false a := by have := (beN_bd a ga.bytes).1; simpa [val] using this
      have h2 : 0 ≤ val n2 b := by
        have : ¬ sgn (val n2 b) < 0 := by rw [← hs, sgn_lt]; omega
        rw [sgn_lt] at this; omega
      have h3 : val n2 b = beN b := by
        cases n2
        · rfl
        · have hb : b ≠ [] := fun e => by have := gb.zero e; cases this
          have := gb.pos hb
          simp [val] at h2; omega
      rw [h3]
      rfl
  · rw [if_neg hs]
    have ca := sgn_vals (val n1 a)
    have cb := sgn_vals (val n2 b)
    have la := sgn_lt (val n1 a)
    have lb := sgn_lt (val n2 b)
    have ea := sgn_eq (val n1 a)
    have eb := sgn_eq (val n2 b)
    have pa := sgn_gt (val n1 a)
    have pb := sgn_gt (val n2 b)
    by_cases hlt : sgn (val n1 a) < sgn (val n2 b)
    · rw [if_pos hlt]
      have : val n1 a - val n2 b < 0 := by omega
      have := (sgn_lt _).2 this
      have := sgn_vals (val n1 a - val n2 b)
      omega
    · rw [if_neg hlt]
      have : 0 < val n1 a - val n2 b := by omega
      have := (sgn_gt _).2 this
      have := sgn_vals (val n1 a - val n2 b)
      omega

theorem cmp_is (n1 n2 : Bool) (a b : List Int) (ga : Good n1 a) (gb : Good n2 b) : ∃ k, spec_Int_Cmp.f k n1 a n2 b = some (sgn (val n1 a - val n2 b)) := by
  refine ⟨a.length + b.length + 1, ?_⟩
  have sa := ga.short
  have sb := gb.short
  have h1 := order_is a b (a.length + b.length + 1) (by omega) (by omega)
  have h2 := order_is b a (a.length + b.length + 1) (by omega) (by omega)
  unfold spec_Int_Cmp.f
  rw [sign_is n1 a ga, sign_is n2 b gb, cmp_num n1 n2 a b ga gb]
  simp only [Option.bind_some, h1, h2]
  rw [ordC_num a b ga.bytes gb.bytes ga.lead gb.lead, ordC_num b a gb.bytes ga.bytes gb.lead ga.lead]
  split
  · split <;> rfl
  · split <;> rfl
theorem cmp_c (B1 B2 : Nat) (v1 v2 : Value) (n1 n2 : Bool) (a b : List Int) (w : World) (h1 : SInt B1 w v1 n1 a) (h2 : SInt B2 w v2 n2 b) (ga : Good n1 a) (gb : Good n2 b) :
    Calls Tryz.prog 42 #[v1, v2] w fun e w' => e = .returned (.int .i64 (sgn (val n1 a - val n2 b))) ∧ Below w.heap.size w w' := by
  obtain ⟨s1, rfl, hs1⟩ := h1
  obtain ⟨s2, rfl, hs2⟩ := h2
  obtain ⟨A1, c1, rfl, l1, k1⟩ := hs1.c
  obtain ⟨A2, c2, rfl, l2, k2⟩ := hs2.c
  obtain ⟨k, hk⟩ := cmp_is n1 n2 a b ga gb
  exact spec_Int_Cmp.calls k n1 A1 c1 a n2 A2 c2 b _ w k1 l1 k2 l2 hk
end Go.Proofs.YtkplnbjgkhmbcaaGreatDoor

namespace Go.Proofs.YtkplnbjgkhmbcaaGreatDoor
open Go.RowKit
set_option linter.unusedVariables false

set_option maxRecDepth 100000 in
set_option maxHeartbeats 1000000 in
/-- nat.norm of a row in memory: the slice cut behind the last word that is not 0. -/
theorem norm_row (b o c : Nat) (l : List Int) (w : World) (hc : l.length ≤ c) (hm : c ≤ 140737488355328) (hcell : ∀ j (h : j < l.length), w.cell? ⟨b, o + j, none⟩ = some (.int .u64 l[j])) :
    Calls Tryz.prog 166 #[.slice (some ⟨b, o, none⟩) l.length c] w fun e w' => w = w' ∧ ∃ i, i ≤ l.length ∧ (∀ j (hj : j < l.length), i ≤ j → l[j] = 0) ∧ (∀ h : 0 < i, ∀ hl : i - 1 < l.length, l[i - 1] ≠ 0) ∧ e = .returned (.slice (some ⟨b, o, none⟩) i c) := by
  have HC := Lib.hid hcell
  clear hcell
  go_enter Tryz.func166, Tryz.ntmps166
  go_wp2
  go_loop [3] (fun v => ∃ i : Nat, i ≤ l.length ∧ v = .int .i64 i ∧ Hid (∀ j (hj : j < l.length), i ≤ j → l[j] = 0)) (fun v => (intOf v).toNat)
  case atStart => exact ⟨l.length, Nat.le_refl _, rfl, fun j hj h => by omega⟩
  case round =>
    obtain ⟨i, hi, rfl, hz⟩ := hrel
    rcases i with _ | j
    · go_wp2
      go_ret
      exact ⟨rfl, 0, by omega, hz.out, fun h => by omega, rfl⟩
    · have hj : j < l.length := by omega
      have hcj := HC.out j hj
      by_cases h0 : l[j] = 0
      · have h0b : (l[j] == 0) = true := by simp [h0]
        have HZ : Hid (∀ q (hq : q < l.length), j ≤ q → l[q] = 0) := by
          intro q hq hle
          by_cases e : q = j
          · subst e; exact h0
          · exact hz q hq (by omega)
        clear h0 hz
        go_wp2
        go_round
        case rel => exact ⟨j, by omega, by go_num, HZ⟩
        case measure => simp [intOf]
      · have h0b : (l[j] == 0) = false := by simp [h0]
        have H0 := Lib.hid h0
        clear h0
        go_wp2
        go_ret
        exact ⟨rfl, j + 1, by omega, hz.out, fun _ _ => H0.out, rfl⟩

theorem wordInfo : (Tryz.prog.info? 265).map (fun i => (i.zero, i.size, i.bytes)) = some (some (.int .u64 0), 1, 8) := by kernel_rfl

theorem irow_zeros (w : World) (k : IntKind) (n m : Nat) (e : TypeId) (h : n ≤ m) : IRow k (w.alloc (.cells (madeCells #[.int k 0] m) e)) w.heap.size (List.replicate n 0) := by
  refine ⟨fun j hj => ?_, fun j hj => ?_⟩
  · rw [List.length_replicate] at hj
    rw [World.cell?_alloc_mark, List.getElem_replicate]
    rw [← Array.getElem?_toList, toList_madeCells_one, List.getElem?_replicate, if_pos (by omega)]
  · rw [World.frozen?_alloc_mark]; simp

set_option maxRecDepth 100000 in
/-- nat.make of no words, onto nil. -/
theorem make_nil0 (w : World) : Calls Tryz.prog 161 #[.slice none 0 0, .int .i64 0] w fun e w' => e = .returned (.slice none 0 0) ∧ w = w' := by
  go_enter Tryz.func161, Tryz.ntmps161
  go_wp2
  go_ret
  exact ⟨rfl, rfl⟩

set_option maxRecDepth 100000 in
/-- nat.make of n words, n not 0, onto nil: a new row of zeros. -/
theorem make_nil (n : Nat) (w : World) (h0 : 0 < n) (h1 : n ≤ 4398046511104) :
    Calls Tryz.prog 161 #[.slice none 0 0, .int .i64 n] w fun e w' =>
      ∃ c, e = .returned (.slice (some ⟨w.heap.size, 0, none⟩) n c) ∧ n ≤ c ∧ c ≤ n + 4 ∧ IRow .u64 w' w.heap.size (List.replicate n 0) ∧ Below w.heap.size w w' ∧ w'.heap.size = w.heap.size + 1 := by
  obtain ⟨i, hi, hzz⟩ := Option.map_eq_some_iff.1 wordInfo
  simp only [Prod.mk.injEq] at hzz
  obtain ⟨hz, hs, hb⟩ := hzz
  have hmk := fun (l c : Int) (h0 : 0 ≤ l) (hlc : l ≤ c) (hc : c ≤ 4398046511200) (w : World) => run_make (P := Tryz.prog) w 194 265 i (.int .u64 0) Tryz.underlying194 hi hz .i64 .i64 l c h0 hlc (by rw [hb]; omega) (by omega)
  simp only [hs, Nat.mul_one] at hmk
  have hcl : (Value.int .u64 0).cells = #[.int .u64 0] := rfl
  rw [hcl] at hmk
  have m1 := hmk 1 1 (by omega) (by omega) (by omega)
  have m2 := hmk n (n + 4) (by omega) (by omega) (by omega)
  rw [show ((n : Int) + 4).toNat = n + 4 from by omega, Int.toNat_natCast] at m2
  clear hmk hcl hs hb hi hz
  by_cases h : n = 1
  · subst h
    go_enter Tryz.func161, Tryz.ntmps161
    go_wp2
    go_ret
    exact ⟨1, rfl, by omega, by omega, irow_zeros w .u64 1 _ _ (by decide), (Below.refl _ w).alloc (Nat.le_refl _) _, by simp⟩
  · have hb1 : ((n : Int) == 1) = false := by simp; omega
    go_enter Tryz.func161, Tryz.ntmps161
    go_wp2
    go_ret
    exact ⟨n + 4, rfl, by omega, by omega, irow_zeros w .u64 n _ _ (by omega), (Below.refl _ w).alloc (Nat.le_refl _) _, by simp⟩
end Go.Proofs.YtkplnbjgkhmbcaaGreatDoor
