/- Ints at any address: Set, Abs, QuoRem by one word, euclidUpdate. · Plain Lean: numbers that have no common divisor; an odd number and a power of two. · Plain Lean: rows of words multiplied. · Plain Lean: a float as a quotient of two numbers; how it is compared with an integer; a word shifted to the left. · nat.cmp: the order of two numbers of words. · Words times words: mulAddVWW, mulAddWW, addMulVVWW, basicMul, mul. -/
import Derived.Test.YtkplnbjgkhmbcaaGreatDoorM11
import Derived.Test.YtkplnbjgkhmbcaaGreatDoorM04
import Derived.Test.YtkplnbjgkhmbcaaGreatDoorM01
import Derived.Lib.SliceRun
namespace Go.Proofs.YtkplnbjgkhmbcaaGreatDoor
open Go.RowKit Go.Shelf Go.Proofs.YtkplnbjgkhmbcaaGreatDoorW.PrintWords Go.Proofs.YtkplnbjgkhmbcaaGreatDoorW.PrintLast Go.Proofs.YtkplnbjgkhmbcaaGreatDoorW.PrintMore
set_option linter.unusedVariables false
set_option linter.unusedSimpArgs false

/-- A big.Int at an address: a block of its own, or a part of a greater one. -/
structure PI (w : World) (g o : Nat) (neg : Bool) (v : Value) (zs : List Int) : Prop where
  blk : ∃ cs t, w.heap[g]? = some (.cells cs t (0, 0)) ∧ cs[o]? = some (.bool neg) ∧ cs[o + 1]? = some v
  sl : Sl .u64 0 w v zs
  words : Words zs
  top : Top zs
section
variable {w w' : World} {g o : Nat} {neg : Bool} {v : Value} {zs : List Int}
theorem PI.c0 (h : PI w g o neg v zs) : w.cell? ⟨g, o, none⟩ = some (.bool neg) := by
  obtain ⟨cs, t, h1, h2, _⟩ := h.blk; exact blk_cell h1 o _ h2
theorem PI.c1 (h : PI w g o neg v zs) : w.cell? ⟨g, o + 1, none⟩ = some v := by
  obtain ⟨cs, t, h1, _, h2⟩ := h.blk; exact blk_cell h1 (o + 1) _ h2
theorem PI.f (h : PI w g o neg v zs) (j : Nat) : w.frozen? ⟨g, j, none⟩ = false := by
  obtain ⟨cs, t, h1, _⟩ := h.blk; exact blk_free h1 j
theorem PI.lt (h : PI w g o neg v zs) : g < w.heap.size := lt_of_cell h.c0
theorem PI.below (h : PI w g o neg v zs) (hb : Below w.heap.size w w') : PI w' g o neg v zs := by
  obtain ⟨cs, t, h1, h2, h3⟩ := h.blk
  exact ⟨⟨cs, t, blk_below h1 hb, h2, h3⟩, h.sl.below hb, h.words, h.top⟩
theorem BI.pi (h : BI w g neg v zs) : PI w g 0 neg v zs := ⟨⟨_, _, h.blk, rfl, rfl⟩, h.sl.mono (Nat.zero_le _), h.words, h.top⟩
end
theorem ptr_otherP (w : World) (g o g2 : Nat) (h : g2 ≠ g) {ca cb : Array Value} {ta tb : TypeId} (ha : w.heap[g2]? = some (.cells ca ta (0, 0))) (hb : w.heap[g]? = some (.cells cb tb (0, 0))) : (binOp .neq 118 (.pointer (some ⟨g2, 0, none⟩)) (.pointer (some ⟨g, o, none⟩))).run Tryz.prog w = .ok (.bool true) w := by
  obtain ⟨i, hi, hs⟩ := Option.map_eq_some_iff.1 intInfo
  exact run_neq_ptr_other w Tryz.underlying118 hi (by rw [hs]; decide) (by intro e; injection e with e; exact h e) ha hb

set_option maxRecDepth 100000 in
/-- z.Set(x), z new, x anywhere else. -/
theorem intSetP_c (g o g2 : Nat) (neg n0 : Bool) (v : Value) (zs : List Int) (w : World) (h : PI w g o neg v zs) (hne : g2 ≠ g) (hlen : zs.length ≤ 4398046511104)
    (hk : w.heap[g2]? = some (.cells #[.bool n0, .slice none 0 0] 196 (0, 0))) :
    Calls Tryz.prog 132 #[.pointer (some ⟨g2, 0, none⟩), .pointer (some ⟨g, o, none⟩)] w fun e w' => e = .returned (.pointer (some ⟨g2, 0, none⟩)) ∧ (∃ u, BI w' g2 neg u zs) ∧ Below g2 w w' := by
  obtain ⟨cs, ct, hblk, _⟩ := h.blk
  have hpe := ptr_otherP w g o g2 hne hk hblk
  clear hblk
  have d0 := blk_cell hk 0 _ rfl
  have d1 := blk_cell hk 1 _ rfl
  have g0 := blk_free hk 0
  have g1 := blk_free hk 1
  have hlt2 : g2 < w.heap.size := lt_of_cell d0
  have HK := Lib.hid hk
  clear hk
  have c0 := h.c0
  have c1 := h.c1
  have hlt := h.lt
  have HC := Lib.hid (fun w' (hb : Below w.heap.size w w') => natSet_c _ v zs w' (h.sl.below hb) hlen)
  have HW := Lib.hid (And.intro h.words h.top)
  obtain ⟨A, c, rfl, _⟩ := h.sl.c
  clear h
  have HB0 : Hid (Below w.heap.size w w) := Below.refl _ _
  go_enter Tryz.func132, Tryz.ntmps132
  go_wp2
  go_region_with (go_at_call 160; refine (HC.out _ (by first | exact HB0.out | exact HB0.out.drew)).mono ?_; rintro e w1 ⟨u, rfl, hs1, hb1⟩; obtain ⟨A1, k1, rfl, _⟩ := hs1.c; have HS1 := Lib.hid hs1; replace HB0 : Hid (Below w.heap.size w w1) := (by first | exact HB0.out.trans hb1 | exact HB0.out.drew.trans hb1); clear hs1 hb1; have q0 := (HB0.out.cell (p := ⟨g2, 0, none⟩) hlt2).trans d0; have q1 := (HB0.out.cell (p := ⟨g2, 1, none⟩) hlt2).trans d1; have r0 := (HB0.out.frozen (p := ⟨g2, 0, none⟩) hlt2).trans g0; have r1 := (HB0.out.frozen (p := ⟨g2, 1, none⟩) hlt2).trans g1; have p0 := (HB0.out.cell (p := ⟨g, o, none⟩) hlt).trans c0; have p1 := (HB0.out.cell (p := ⟨g, o + 1, none⟩) hlt).trans c1)
  all_goals go_wp2
  all_goals go_ret
  all_goals exact ⟨rfl, ⟨_, bi_set2 (blk_below HK.out HB0.out) (HS1.out.mono (by first | exact hlt2 | (simp; exact hlt2))) HW.out.1 HW.out.2⟩, ((HB0.out.mono (Nat.le_of_lt hlt2)).setCell (Nat.le_refl _) _).setCell (Nat.le_refl _) _⟩

set_option maxRecDepth 100000 in
/-- z.Abs(x), z new. -/
theorem intAbs_c (g o g2 : Nat) (neg n0 : Bool) (v : Value) (zs : List Int) (w : World) (h : PI w g o neg v zs) (hne : g2 ≠ g) (hlen : zs.length ≤ 4398046511104)
    (hk : w.heap[g2]? = some (.cells #[.bool n0, .slice none 0 0] 196 (0, 0))) :
    Calls Tryz.prog 197 #[.pointer (some ⟨g2, 0, none⟩), .pointer (some ⟨g, o, none⟩)] w fun e w' => e = .returned (.pointer (some ⟨g2, 0, none⟩)) ∧ (∃ u, BI w' g2 false u zs) ∧ Below g2 w w' := by
  have HC := Lib.hid (intSetP_c g o g2 neg n0 v zs w h hne hlen hk)
  clear h hk hne hlen
  go_enter Tryz.func197, Tryz.ntmps197
  go_wp2_with (go_at_call 132; refine HC.out.mono ?_; rintro e w1 ⟨rfl, ⟨u, hu⟩, hb1⟩; have c0 := hu.c0; have f0 := hu.f0; have HU := Lib.hid hu; have HB := Lib.hid hb1; clear hu hb1)
  go_ret
  exact ⟨rfl, ⟨_, bi_neg HU.out⟩, HB.out.setCell (Nat.le_refl _) _⟩
end Go.Proofs.YtkplnbjgkhmbcaaGreatDoor

namespace Go.Proofs.YtkplnbjgkhmbcaaGreatDoor

/-- Two numbers of which 1 is a sum of multiples. -/
def Bez (a b : Int) : Prop := ∃ x y : Int, a * x + b * y = 1
theorem Bez.swap {a b : Int} (h : Bez a b) : Bez b a := by
  obtain ⟨x, y, h⟩ := h
  exact ⟨y, x, by omega⟩
theorem Bez.step {a b : Int} (h : Bez a b) : Bez b (a % b) := by
  obtain ⟨x, y, h⟩ := h
  refine ⟨a / b * x + y, x, ?_⟩
  have e := Int.mul_ediv_add_emod a b
  rw [Int.mul_add, ← Int.mul_assoc]
  have e2 : a * x = b * (a / b) * x + a % b * x := by rw [← Int.add_mul, e]
  omega
theorem Bez.zero {a : Int} (h : Bez a 0) (h0 : 0 ≤ a) : a = 1 := by
  obtain ⟨x, y, h⟩ := h
  rw [Int.zero_mul, Int.add_zero] at h
  have h1 : a ∣ 1 := ⟨x, h.symm⟩
  have h2 := Int.le_of_dvd (by omega) h1
  have h3 : a ≠ 0 := by
    intro e; rw [e, Int.zero_mul] at h; omega
  omega
theorem bez_one (a : Int) : Bez a 1 := ⟨0, 1, by omega⟩
theorem bez_two (m : Int) (hm : m % 2 = 1) : ∀ t : Nat, Bez m (2 ^ t) := by
  intro t
  induction t with
  | zero => exact ⟨0, 1, by simp⟩
  | succ t ih =>
    obtain ⟨x, y, h⟩ := ih
    rcases Int.emod_two_eq y with hy | hy
    · refine ⟨x, y / 2, ?_⟩
      have e : y = 2 * (y / 2) := by omega
      rw [Int.pow_succ, Int.mul_assoc, ← e]; exact h
    · refine ⟨x + 2 ^ t, (y - m) / 2, ?_⟩
      have e : y - m = 2 * ((y - m) / 2) := by omega
      rw [Int.pow_succ, Int.mul_assoc, ← e, Int.mul_add, Int.mul_sub, Int.mul_comm (2 ^ t) m]
      omega
end Go.Proofs.YtkplnbjgkhmbcaaGreatDoor

namespace Go.Proofs.YtkplnbjgkhmbcaaGreatDoor

theorem leN_take_succ (l : List Int) (k : Nat) (h : k < l.length) : leN (l.take (k + 1)) = leN (l.take k) + 18446744073709551616 ^ k * l[k] := by
  rw [List.take_succ_eq_append_getElem h, leN_append, List.length_take, leN_cons, leN_nil, Nat.min_eq_left (by omega)]
  simp
/-- Where the loop of a word times a row stands, the products added into a row from place i on. -/
structure AM (xs D0 : List Int) (i : Nat) (d : Int) (j : Nat) (D : List Int) (c : Int) : Prop where
  len : D.length = D0.length
  words : Words D
  rest : ∀ k (h : k < D.length) (h0 : k < D0.length), i + j ≤ k → D[k] = D0[k]
  c0 : 0 ≤ c
  c1 : c < 18446744073709551616
  num : leN D + 18446744073709551616 ^ (i + j) * c = leN D0 + 18446744073709551616 ^ i * (leN (xs.take j) * d)
theorem am_start (xs D0 : List Int) (i : Nat) (d : Int) (hw : Words D0) : AM xs D0 i d 0 D0 0 :=
  ⟨rfl, hw, fun _ _ _ _ => rfl, by omega, by omega, by simp [leN]⟩
theorem am_step {xs D0 : List Int} {i : Nat} {d : Int} {j : Nat} {D : List Int} {c : Int} (h : AM xs D0 i d j D c) (hx : Words xs) (hd : 0 ≤ d ∧ d < 18446744073709551616) (hj : j < xs.length) (hij : i + j < D.length) :
    0 ≤ xs[j] * d + D[i + j] + c ∧ xs[j] * d + D[i + j] + c < 340282366920938463463374607431768211456 ∧
    AM xs D0 i d (j + 1) (D.set (i + j) ((xs[j] * d + D[i + j] + c) % 18446744073709551616)) ((xs[j] * d + D[i + j] + c) / 18446744073709551616) := by
  have hx0 := hx xs[j] (List.getElem_mem hj)
  have hD := h.words D[i + j] (List.getElem_mem hij)
  have c0 := h.c0
  have c1 := h.c1
  have hn := h.num
  have p0 : 0 ≤ xs[j] * d := Int.mul_nonneg hx0.1 hd.1
  have p1 : xs[j] * d ≤ 18446744073709551615 * 18446744073709551615 := by
    have a : xs[j] * d ≤ xs[j] * 18446744073709551615 := Int.mul_le_mul_of_nonneg_left (by omega) hx0.1
    have b : xs[j] * 18446744073709551615 ≤ 18446744073709551615 * 18446744073709551615 := Int.mul_le_mul_of_nonneg_right (by omega) (by omega)
    omega
  refine ⟨by omega, by omega, ⟨by simpa using h.len, words_set _ _ _ h.words (by omega) (by omega), fun k hk h0 hle => ?_, by omega, by omega, ?_⟩⟩
  · rw [List.getElem_set_ne (by omega)]
    exact h.rest k (by simpa using hk) h0 (by omega)
  · rw [leN_set _ _ hij, leN_take_succ xs j hj]
    have hD0 := h.rest (i + j) hij (by rw [← h.len]; exact hij) (Nat.le_refl _)
    obtain ⟨t, ht⟩ : ∃ t, xs[j] * d + D[i + j] + c = t := ⟨_, rfl⟩
    have e3 : t / 18446744073709551616 * 18446744073709551616 + t % 18446744073709551616 = t := by omega
    rw [ht]
    rw [show i + (j + 1) = i + j + 1 from rfl, Int.pow_succ, Int.mul_assoc, Int.mul_comm 18446744073709551616 (t / 18446744073709551616)]
    obtain ⟨P, hP⟩ : ∃ P : Int, 18446744073709551616 ^ (i + j) = P := ⟨_, rfl⟩
    have e4 : P * (t % 18446744073709551616 - D[i + j]) + P * (t / 18446744073709551616 * 18446744073709551616) = P * (xs[j] * d) + P * c := by
      rw [← Int.mul_add, ← Int.mul_add]; congr 1; omega
    have e5 : (18446744073709551616 : Int) ^ i * ((leN (xs.take j) + 18446744073709551616 ^ j * xs[j]) * d) = 18446744073709551616 ^ i * (leN (xs.take j) * d) + P * (xs[j] * d) := by
      rw [← hP, Int.pow_add, Int.add_mul, Int.mul_add, Int.mul_assoc (18446744073709551616 ^ j), Int.mul_assoc (18446744073709551616 ^ i) (18446744073709551616 ^ j)]
    rw [hP] at hn ⊢
    rw [e5]
    omega
/-- Where the loop over the second factor stands. -/
structure BM (xs ys : List Int) (i : Nat) (D : List Int) : Prop where
  len : D.length = xs.length + ys.length
  words : Words D
  rest : ∀ k (h : k < D.length), xs.length + i ≤ k → D[k] = 0
  num : leN D = leN xs * leN (ys.take i)
theorem bm_start (xs ys : List Int) : BM xs ys 0 (List.replicate (xs.length + ys.length) 0) :=
  ⟨by simp, words_zeros _, fun k h _ => by simp, by rw [leN_zeros]; simp [leN]⟩
theorem bm_skip {xs ys : List Int} {i : Nat} {D : List Int} (h : BM xs ys i D) (hi : i < ys.length) (hz : ys[i] = 0) : BM xs ys (i + 1) D :=
  ⟨h.len, h.words, fun k hk hle => h.rest k hk (by omega), by rw [leN_take_succ ys i hi, hz]; simp [h.num]⟩
theorem bm_step {xs ys : List Int} {i : Nat} {D D' : List Int} {c : Int} (h : BM xs ys i D) (hi : i < ys.length) (a : AM xs D i ys[i] xs.length D' c) : BM xs ys (i + 1) (D'.set (xs.length + i) c) := by
  have hl := h.len
  have hl2 := a.len
  have hlt : xs.length + i < D'.length := by omega
  refine ⟨by simpa using hl2.trans hl, words_set _ _ _ a.words a.c0 a.c1, fun k hk hle => ?_, ?_⟩
  · have hk2 : k < D'.length := by simpa using hk
    rw [List.getElem_set_ne (by omega), a.rest k hk2 (by omega) (by omega)]
    exact h.rest k _ (by omega)
  · have e0 : D'[xs.length + i] = 0 := by
      rw [a.rest _ hlt (by omega) (by omega)]
      exact h.rest _ _ (Nat.le_refl _)
    have hn := a.num
    rw [leN_set _ _ hlt, e0, leN_take_succ ys i hi, Int.sub_zero, Nat.add_comm xs.length i, hn, h.num, List.take_length, Int.mul_add]
    rw [Int.mul_comm (18446744073709551616 ^ i) (leN xs * ys[i]), Int.mul_assoc, Int.mul_comm ys[i]]
theorem bm_end {xs ys D : List Int} (h : BM xs ys ys.length D) : leN D = leN xs * leN ys := by
  rw [h.num, List.take_length]
/-- Where the loop of a row times a word, onto another row, stands. -/
structure WM (xs : List Int) (y r : Int) (n j : Nat) (D : List Int) (c : Int) : Prop where
  len : D.length = n
  words : Words D
  c0 : 0 ≤ c
  c1 : c < 18446744073709551616
  num : leN (D.take j) + 18446744073709551616 ^ j * c = leN (xs.take j) * y + r
theorem wm_start (xs : List Int) (y r : Int) (n : Nat) (D : List Int) (hl : D.length = n) (hw : Words D) (h0 : 0 ≤ r) (h1 : r < 18446744073709551616) : WM xs y r n 0 D r :=
  ⟨hl, hw, h0, h1, by simp [leN]⟩
theorem wm_step {xs : List Int} {y r : Int} {n j : Nat} {D : List Int} {c : Int} (h : WM xs y r n j D c) (hx : Words xs) (hy : 0 ≤ y ∧ y < 18446744073709551616) (hj : j < xs.length) (hjn : j < n) :
    0 ≤ xs[j] * y + c ∧ xs[j] * y + c < 340282366920938463463374607431768211456 ∧ WM xs y r n (j + 1) (D.set j ((xs[j] * y + c) % 18446744073709551616)) ((xs[j] * y + c) / 18446744073709551616) := by
  have hx0 := hx xs[j] (List.getElem_mem hj)
  have c0 := h.c0
  have c1 := h.c1
  have hn := h.num
  have hl := h.len
  have p0 : 0 ≤ xs[j] * y := Int.mul_nonneg hx0.1 hy.1
  have p1 : xs[j] * y ≤ 18446744073709551615 * 18446744073709551615 := by
    have a : xs[j] * y ≤ xs[j] * 18446744073709551615 := Int.mul_le_mul_of_nonneg_left (by omega) hx0.1
    have b : xs[j] * 18446744073709551615 ≤ 18446744073709551615 * 18446744073709551615 := Int.mul_le_mul_of_nonneg_right (by omega) (by omega)
    omega
  refine ⟨by omega, by omega, ⟨by simpa using hl, words_set _ _ _ h.words (by omega) (by omega), by omega, by omega, ?_⟩⟩
  have hjD : j < (D.set j ((xs[j] * y + c) % 18446744073709551616)).length := by simp; omega
  rw [leN_take_succ _ j hjD, leN_take_succ xs j hj, List.getElem_set_self, List.take_set_of_le (Nat.le_refl _)]
  obtain ⟨t, ht⟩ : ∃ t, xs[j] * y + c = t := ⟨_, rfl⟩
  rw [ht, Int.pow_succ, Int.mul_assoc, Int.add_mul]
  obtain ⟨P, hP⟩ : ∃ P : Int, 18446744073709551616 ^ j = P := ⟨_, rfl⟩
  rw [hP] at hn ⊢
  have e4 : P * (t % 18446744073709551616) + P * (18446744073709551616 * (t / 18446744073709551616)) = P * (xs[j] * y) + P * c := by
    rw [← Int.mul_add, ← Int.mul_add]; congr 1; omega
  rw [Int.mul_assoc P]
  omega
end Go.Proofs.YtkplnbjgkhmbcaaGreatDoor

namespace Go.Proofs.YtkplnbjgkhmbcaaGreatDoor
set_option linter.unusedVariables false

/-- Where the loop that halves a mantissa stands. -/
structure Hv (M S : Int) (m s : Int) : Prop where
  m0 : 0 ≤ m
  mM : m ≤ M
  ex : ∃ j : Nat, M = m * 2 ^ j ∧ S = s + j
  low : s < 0 → m = M ∧ s = S
theorem hv_start (M S : Int) (h : 0 ≤ M) : Hv M S M S := ⟨h, Int.le_refl _, ⟨0, by simp, by omega⟩, fun _ => ⟨rfl, rfl⟩⟩
theorem hv_step {M S m s : Int} (h : Hv M S m s) (he : m % 2 = 0) (hs : 0 < s) : Hv M S (m / 2) (s - 1) := by
  obtain ⟨h1, h2, ⟨j, e1, e2⟩, h4⟩ := h
  refine ⟨by omega, by omega, ⟨j + 1, ?_, by omega⟩, fun h => by omega⟩
  rw [Int.pow_succ, Int.mul_comm (2 ^ j) 2, ← Int.mul_assoc, e1]
  congr 1; omega
/-- The numerator and the denominator. -/
def ratA (m s : Int) : Int := m * 2 ^ (-s).toNat
def ratB (s : Int) : Int := 2 ^ s.toNat
theorem two_pos (n : Nat) : (0 : Int) < 2 ^ n := Int.pow_pos (by omega)
theorem hv_rat {M S m s p : Int} (h : Hv M S m s) (hp : S = -p) : ratA m s * 2 ^ (-p).toNat = M * 2 ^ p.toNat * ratB s := by
  obtain ⟨h1, h2, ⟨j, e1, e2⟩, h4⟩ := h
  unfold ratA ratB
  rcases Int.lt_or_le s 0 with hs | hs
  · obtain ⟨rfl, rfl⟩ := h4 hs
    rw [show (-p).toNat = 0 from by omega, show s.toNat = 0 from by omega, show (-s).toNat = p.toNat from by omega]
  · rw [show (-s).toNat = 0 from by omega, show p.toNat = 0 from by omega, show (-p).toNat = j + s.toNat from by omega, e1, Int.pow_add]
    simp [Int.mul_assoc]
theorem hv_bez {M S m s : Int} (h : Hv M S m s) (he : s ≤ 0 ∨ m % 2 = 1) : Bez (ratA m s) (ratB s) := by
  unfold ratA ratB
  rcases Int.lt_or_le 0 s with hs | hs
  · rw [show (-s).toNat = 0 from by omega, Int.pow_zero, Int.mul_one]
    exact bez_two m (by omega) _
  · rw [show s.toNat = 0 from by omega, Int.pow_zero]
    exact bez_one _
theorem sgn_mul_left {x y : Int} (h : 0 < y) : (if x * y < 0 then (-1 : Int) else if x * y = 0 then 0 else 1) = if x < 0 then -1 else if x = 0 then 0 else 1 := by
  by_cases h1 : x < 0
  · rw [if_pos h1, if_pos (Int.mul_neg_of_neg_of_pos h1 h)]
  · by_cases h2 : x = 0
    · rw [h2]; simp
    · have h3 : 0 < x * y := Int.mul_pos (by omega) h
      rw [if_neg h1, if_neg h2, if_neg (by omega), if_neg (by omega)]
theorem rat_cmp (X a b M p : Int) (hb : 0 < b) (h : a * 2 ^ (-p).toNat = M * 2 ^ p.toNat * b) : sgn (X * b - a) = sgn (X * 2 ^ (-p).toNat - M * 2 ^ p.toNat) := by
  have hq := two_pos (-p).toNat
  have e : (X * b - a) * 2 ^ (-p).toNat = (X * 2 ^ (-p).toNat - M * 2 ^ p.toNat) * b := by
    rw [Int.sub_mul, Int.sub_mul, h, Int.mul_assoc X, Int.mul_comm b, ← Int.mul_assoc X]
  have h1 : sgn ((X * b - a) * 2 ^ (-p).toNat) = sgn (X * b - a) := by unfold sgn; exact sgn_mul_left hq
  have h2 : sgn ((X * 2 ^ (-p).toNat - M * 2 ^ p.toNat) * b) = sgn (X * 2 ^ (-p).toNat - M * 2 ^ p.toNat) := by unfold sgn; exact sgn_mul_left hb
  rw [← h1, e, h2]
/-- A word shifted to the left by q words and r bits: the row. -/
def shl1 (x : Int) (q : Nat) (r : Nat) : List Int := List.replicate q 0 ++ [x * 2 ^ r % 18446744073709551616, x * 2 ^ r / 18446744073709551616]
theorem two64 (q : Nat) : (2 : Int) ^ (64 * q) = 18446744073709551616 ^ q := by
  rw [Int.pow_mul]; congr 1
theorem shl1_num (x : Int) (q r : Nat) : leN (shl1 x q r) = x * 2 ^ (64 * q + r) := by
  unfold shl1
  rw [leN_append, leN_zeros, List.length_replicate, leN_cons, leN_cons, leN_nil, Int.pow_add, two64, Int.mul_comm (18446744073709551616 ^ q) (2 ^ r), ← Int.mul_assoc, Int.mul_comm _ (18446744073709551616 ^ q)]
  have : x * 2 ^ r % 18446744073709551616 + 18446744073709551616 * (x * 2 ^ r / 18446744073709551616 + 18446744073709551616 * 0) = x * 2 ^ r := by omega
  rw [this, Int.zero_add]
theorem shl1_words (x : Int) (q r : Nat) (h0 : 0 ≤ x) (h1 : x < 18446744073709551616) (hr : r ≤ 64) : Words (shl1 x q r) := by
  have hp := two_pos r
  have hle : (2 : Int) ^ r ≤ 18446744073709551616 := by
    have : 2 ^ r ≤ 2 ^ 64 := Nat.pow_le_pow_right (by omega) hr
    have h := Int.ofNat_le.2 this
    simpa using h
  have e0 : 0 ≤ x * 2 ^ r := Int.mul_nonneg h0 (by omega)
  have e1 : x * 2 ^ r < 18446744073709551616 * 18446744073709551616 := by
    have a : x * 2 ^ r ≤ x * 18446744073709551616 := Int.mul_le_mul_of_nonneg_left hle h0
    omega
  intro y hy
  unfold shl1 at hy
  rw [List.mem_append] at hy
  rcases hy with hy | hy
  · rw [List.mem_replicate] at hy; omega
  · simp at hy
    rcases hy with rfl | rfl <;> omega
theorem shl1_len (x : Int) (q r : Nat) : (shl1 x q r).length = q + 2 := by unfold shl1; simp
end Go.Proofs.YtkplnbjgkhmbcaaGreatDoor

namespace Go.Proofs.YtkplnbjgkhmbcaaGreatDoor
open Go.RowKit Go.Proofs.YtkplnbjgkhmbcaaGreatDoorW.PrintWords Go.Proofs.YtkplnbjgkhmbcaaGreatDoorW.PrintLast Go.Proofs.YtkplnbjgkhmbcaaGreatDoorW.PrintMore Go.Proofs.YtkplnbjgkhmbcaaGreatDoor.PFnCompare Go.Proofs.YtkplnbjgkhmbcaaGreatDoor.PCmp Go.Proofs.YtkplnbjgkhmbcaaGreatDoor.PbytesOf Go.Proofs.YtkplnbjgkhmbcaaGreatDoor.Pcmp
set_option linter.unusedVariables false

theorem words_take {l : List Int} (h : Words l) (n : Nat) : Words (l.take n) := fun x hx => h x (List.mem_of_mem_take hx)
theorem top_digit (a b x y P : Int) (ha : 0 ≤ a) (ha1 : a < P) (hb : 0 ≤ b) (hb1 : b < P) (h : x < y) : a + P * x - (b + P * y) < 0 := by
  have : P * x + P ≤ P * y := by
    have h1 : P * (x + 1) ≤ P * y := Int.mul_le_mul_of_nonneg_left (by omega) (by omega)
    rw [Int.mul_add, Int.mul_one] at h1; exact h1
  omega
theorem cmp_loop (x y : List Int) (hx : Words x) (hy : Words y) (hl : x.length = y.length) (hn : x.length < 140737488355328) : ∀ (i k : Nat), i < x.length → i + 2 < k → bigall_nat_cmp.l0 k x y 0 (i : Int) = some (sgn (leN (x.take (i + 1)) - leN (y.take (i + 1)))) := by
  intro i
  induction i with
  | zero =>
    intro k hi hk
    obtain ⟨k, rfl⟩ : ∃ m, k = m + 2 := ⟨k - 2, by omega⟩
    rw [bigall_nat_cmp.l0, if_neg (by omega), bigall_nat_cmp.j2]
    rw [if_pos (by omega), if_pos (by omega), if_pos (by omega), rd_at x 0 hi, rd_at y 0 (by omega)]
    rw [leN_take_succ x 0 hi, leN_take_succ y 0 (by omega)]
    simp only [List.take_zero, leN_nil, Int.pow_zero, Int.one_mul, Int.zero_add]
    unfold sgn
    by_cases h : x[0] < y[0]
    · rw [if_pos h, if_pos (by omega)]
    · rw [if_neg h]
      by_cases h2 : x[0] > y[0]
      · rw [if_pos h2, if_neg (by omega), if_neg (by omega)]
      · rw [if_neg h2, if_neg (by omega), if_pos (by omega)]
  | succ i ih =>
    intro k hi hk
    obtain ⟨k, rfl⟩ : ∃ m, k = m + 2 := ⟨k - 2, by omega⟩
    have hi2 : i + 1 < y.length := by omega
    have ha := leN_bd _ (words_take hx (i + 1))
    have hb := leN_bd _ (words_take hy (i + 1))
    rw [List.length_take, Nat.min_eq_left (by omega)] at ha hb
    rw [bigall_nat_cmp.l0]
    rw [if_pos (by omega), if_pos (by omega), if_pos (by omega), if_pos (by omega), rd_at x (i + 1) hi, rd_at y (i + 1) hi2]
    rw [leN_take_succ x (i + 1) hi, leN_take_succ y (i + 1) hi2]
    by_cases he : x[i + 1] = y[i + 1]
    · rw [if_pos he, wrap_in _ (by omega) (by omega), show (((i + 1 : Nat) : Int) - 1) = (i : Int) from by omega, ih (k + 1) (by omega) (by omega), he]
      congr 2; omega
    · rw [if_neg he, bigall_nat_cmp.j2, if_pos (by omega), if_pos (by omega), if_pos (by omega), rd_at x (i + 1) hi, rd_at y (i + 1) hi2]
      by_cases h : x[i + 1] < y[i + 1]
      · rw [if_pos h]
        have := top_digit _ _ _ _ _ ha.1 ha.2 hb.1 hb.2 h
        unfold sgn; rw [if_pos this]
      · rw [if_neg h, if_pos (by omega)]
        have := top_digit _ _ _ _ _ hb.1 hb.2 ha.1 ha.2 (show y[i + 1] < x[i + 1] by omega)
        unfold sgn; rw [if_neg (by omega), if_neg (by omega)]
theorem wpow_le (a b : Nat) (h : a ≤ b) : (18446744073709551616 : Int) ^ a ≤ 18446744073709551616 ^ b := by
  obtain ⟨c, rfl⟩ : ∃ c, b = a + c := ⟨b - a, by omega⟩
  rw [Int.pow_add]
  have := wpos a
  have h2 := wpos c
  have : (18446744073709551616 : Int) ^ a * 1 ≤ 18446744073709551616 ^ a * 18446744073709551616 ^ c := Int.mul_le_mul_of_nonneg_left (by omega) (by omega)
  omega
theorem leN_longer (x y : List Int) (hx : Words x) (hy : Words y) (ty : Top y) (h : x.length < y.length) : leN x < leN y := by
  have h1 := (leN_bd x hx).2
  have h2 := leN_top y hy ty (by intro e; rw [e] at h; simp at h)
  have h3 := wpow_le x.length (y.length - 1) (by omega)
  omega
theorem natcmp_is (x y : List Int) (hx : Words x) (hy : Words y) (tx : Top x) (ty : Top y) (hn : x.length < 140737488355328) (hm : y.length < 140737488355328) : ∃ k, bigall_nat_cmp.f k x y = some (sgn (leN x - leN y)) := by
  refine ⟨x.length + 5, ?_⟩
  unfold bigall_nat_cmp.f
  by_cases hl : x.length = y.length
  · rw [if_pos (by omega)]
    rcases Nat.eq_zero_or_pos x.length with h0 | h0
    · have e1 : x = [] := List.eq_nil_of_length_eq_zero h0
      have e2 : y = [] := List.eq_nil_of_length_eq_zero (by omega)
      subst e1; subst e2
      simp [bigall_nat_cmp.j0, leN, sgn]
    · have hb : ((x.length : Int) == 0) = false := beq_eq_false_iff_ne.2 (by omega)
      rw [hb]
      rw [bigall_nat_cmp.j0, if_neg (by simp), wrap_in _ (by omega) (by omega), show ((x.length : Int) - 1) = ((x.length - 1 : Nat) : Int) from by omega, cmp_loop x y hx hy hl hn (x.length - 1) (x.length + 4) (by omega) (by omega)]
      rw [show x.length - 1 + 1 = x.length from by omega, List.take_length]
      conv => lhs; rw [hl, List.take_length]
  · rw [if_neg (by omega)]
    rw [bigall_nat_cmp.j0, if_pos rfl]
    by_cases h : x.length < y.length
    · rw [if_pos (by omega)]
      have := leN_longer x y hx hy ty h
      unfold sgn; rw [if_pos (by omega)]
    · rw [if_neg (by omega), if_pos (by omega)]
      have := leN_longer y x hy hx tx (by omega)
      unfold sgn; rw [if_neg (by omega), if_neg (by omega)]
theorem natCmp_c (B1 B2 : Nat) (v1 v2 : Value) (x y : List Int) (w : World) (h1 : Sl .u64 B1 w v1 x) (h2 : Sl .u64 B2 w v2 y) (hx : Words x) (hy : Words y) (tx : Top x) (ty : Top y) (hn : x.length < 140737488355328) (hm : y.length < 140737488355328) :
    Calls Tryz.prog 137 #[v1, v2] w fun e w' => e = .returned (.int .i64 (sgn (leN x - leN y))) ∧ ∃ n, w' = w.drewN n := by
  obtain ⟨A1, c1, rfl, l1, k1⟩ := h1.c
  obtain ⟨A2, c2, rfl, l2, k2⟩ := h2.c
  obtain ⟨k, hk⟩ := natcmp_is x y hx hy tx ty hn hm
  exact (bigall_nat_cmp.calls k A1 c1 x A2 c2 y _ w k1 l1 k2 l2 hk).mono fun e w' h => ⟨h.1, h.2.out⟩
end Go.Proofs.YtkplnbjgkhmbcaaGreatDoor

namespace Go.Proofs.YtkplnbjgkhmbcaaGreatDoor
open Go.RowKit Go.Shelf
set_option linter.unusedVariables false
set_option linter.unusedSimpArgs false

theorem IRow.drewN' {k : IntKind} {w : World} {b : Nat} {l : List Int} (h : IRow k w b l) (n : Nat) : IRow k (w.drewN n) b l := h

set_option maxRecDepth 100000 in
set_option maxHeartbeats 2000000 in
theorem mulAddVWW_g_c (g b o c1 c : Nat) (xs zs : List Int) (y r : Int) (w : World) (hz : xs.length ≤ zs.length) (hzw : Words zs) (hr : IRow .u64 w g zs) (hx : Words xs) (hmax : xs.length ≤ 4398046511104)
    (hcell : ∀ j (h : j < xs.length), w.cell? ⟨b, o + j, none⟩ = some (.int .u64 xs[j])) (hb : b < g) (hy : 0 ≤ y ∧ y < 18446744073709551616) (hr0 : 0 ≤ r ∧ r < 18446744073709551616) :
    Calls Tryz.prog 211 #[.slice (some ⟨g, 0, none⟩) xs.length c1, .slice (some ⟨b, o, none⟩) xs.length c, .int .u64 y, .int .u64 r] w fun e w' =>
      ∃ D cc, e = .returned (.int .u64 cc) ∧ WM xs y r zs.length xs.length D cc ∧ IRow .u64 w' g D ∧ Below g w w' := by
  have HM := Lib.hid (fun x c w hx hc => mulAddWWW_c x y c w hx hy hc)
  have H0 := Lib.hid (wm_start xs y r zs.length zs rfl hzw hr0.1 hr0.2)
  have HC := Lib.hid hcell
  have HW := Lib.hid hx
  have HR := Lib.hid hr
  have HY := Lib.hid (And.intro hy hz)
  clear hcell hx hr hzw hr0 hy hz
  go_enter Tryz.func211, Tryz.ntmps211
  go_wp2
  go_loopw [8, 19] (fun a d wr => ∃ (j : Nat) (D : List Int) (cc : Int), j ≤ xs.length ∧ d = .int .i64 (j : Int) ∧ a = .int .u64 cc ∧ Hid (WM xs y r zs.length j D cc) ∧ Hid (IRow .u64 wr g D) ∧ Hid (Below g w wr)) (fun _ d _ => xs.length - (intOf d).toNat)
  case atStart => exact ⟨0, zs, r, Nat.zero_le _, rfl, rfl, H0, HR, Below.refl _ _⟩
  case round =>
    obtain ⟨j, D, cc, hj, rfl, rfl, HWM, HD, HB⟩ := hrel
    by_cases hlt : j < xs.length
    · have hjD : j < D.length := by have := HWM.out.len; have := HY.out.2; omega
      have hxj := (HB.out.cell (p := ⟨b, o + j, none⟩) hb).trans (HC.out j hlt)
      have hstep := wm_step HWM.out HW.out HY.out.1 hlt (by have := HY.out.2; omega)
      have HE := Lib.hid (HM.out xs[j] cc wr (HW.out _ (List.getElem_mem hlt)) ⟨HWM.out.c0, HWM.out.c1⟩)
      have HS := Lib.hid hstep.2.2
      clear hstep
      generalize (xs[j] * y + cc) / 18446744073709551616 = q at HE HS
      generalize (xs[j] * y + cc) % 18446744073709551616 = m at HE HS
      generalize xs[j] = xj at hxj HE
      obtain ⟨q1, q2, q3, q4⟩ := irow_step (v := m) HD.out hjD HB.out (Nat.le_refl _)
      have Q3 := Lib.hid q3
      have Q4 := Lib.hid q4
      clear q3 q4
      go_wp2_with (go_at_call 229; with_reducible refine HE.out.mono ?_; rintro e w2 ⟨rfl, rfl⟩)
      go_roundw
      case rel => exact ⟨j + 1, _, q, by omega, by go_num, rfl, HS, Q3, Q4⟩
      case measure => simp [intOf]; omega
    · have hje : j = xs.length := by omega
      go_wp2
      go_ret
      exact ⟨D, cc, rfl, by rw [← hje]; exact HWM.out, HD.out, HB.out⟩

set_option maxRecDepth 100000 in
theorem mulAddVWW_c (g b o c1 c : Nat) (xs zs : List Int) (y r : Int) (w : World) (hz : xs.length ≤ zs.length) (hzw : Words zs) (hr : IRow .u64 w g zs) (hx : Words xs) (hmax : xs.length ≤ 4398046511104)
    (hcell : ∀ j (h : j < xs.length), w.cell? ⟨b, o + j, none⟩ = some (.int .u64 xs[j])) (hb : b < g) (hy : 0 ≤ y ∧ y < 18446744073709551616) (hr0 : 0 ≤ r ∧ r < 18446744073709551616) :
    Calls Tryz.prog 184 #[.slice (some ⟨g, 0, none⟩) xs.length c1, .slice (some ⟨b, o, none⟩) xs.length c, .int .u64 y, .int .u64 r] w fun e w' =>
      ∃ D cc, e = .returned (.int .u64 cc) ∧ WM xs y r zs.length xs.length D cc ∧ IRow .u64 w' g D ∧ Below g w w' := by
  have HC := Lib.hid (mulAddVWW_g_c g b o c1 c xs zs y r w hz hzw hr hx hmax hcell hb hy hr0)
  clear hcell hx hr hzw hr0 hy hz
  go_enter Tryz.func184, Tryz.ntmps184
  go_wp2_with (go_at_call 211; with_reducible refine HC.out.mono ?_; rintro e w2 ⟨D, cc, rfl, h1, h2, h3⟩; have H1 := Lib.hid h1; have H2 := Lib.hid h2; have H3 := Lib.hid h3; clear h1 h2 h3)
  go_ret
  exact ⟨D, cc, rfl, H1.out, H2.out, H3.out⟩

/-- The row and the carry behind it. -/
theorem wm_end {xs D : List Int} {y r cc : Int} (h : WM xs y r (xs.length + 1) xs.length D cc) : leN (D.set xs.length cc) = leN xs * y + r ∧ Words (D.set xs.length cc) := by
  have hl := h.len
  have hlt : xs.length < D.length := by omega
  have hn := h.num
  refine ⟨?_, words_set _ _ _ h.words h.c0 h.c1⟩
  have e : (D.set xs.length cc).take (xs.length + 1) = D.set xs.length cc := List.take_of_length_le (by simp; omega)
  rw [← e, leN_take_succ _ xs.length (by simpa using hlt), List.getElem_set_self, List.take_set_of_le (Nat.le_refl _)]
  rw [List.take_length] at hn
  exact hn

set_option maxRecDepth 100000 in
/-- Words times one word, onto nil. -/
theorem mulAddWW_c (B : Nat) (v : Value) (xs : List Int) (y : Int) (w : World) (h : Sl .u64 B w v xs) (hne : xs ≠ []) (hx : Words xs) (hmax : xs.length ≤ 1000000) (hy : 0 < y ∧ y < 18446744073709551616) :
    Calls Tryz.prog 163 #[.slice none 0 0, v, .int .u64 y, .int .u64 0] w fun e w' => ∃ u ys, e = .returned u ∧ Sl .u64 w.heap.size w' u ys ∧ Words ys ∧ Top ys ∧ leN ys = leN xs * y ∧ ys.length ≤ xs.length + 1 ∧ Below w.heap.size w w' := by
  have hy0 : (y == 0) = false := by simp; omega
  have hl0 : ((xs.length : Int) == 0) = false := by
    have := List.length_pos_iff.2 hne
    simp; omega
  obtain ⟨A, c, rfl, k1, k2, k3⟩ := h
  obtain ⟨b, o, rfl, hB, hlt, hc⟩ := k3 hne
  have HMk := Lib.hid (fun w => make_nil (xs.length + 1) w (by omega) (by omega))
  have HV := Lib.hid (fun (c1 : Nat) (w1 : World) (hb1 : Below w.heap.size w w1) (hr1 : IRow .u64 w1 w.heap.size (List.replicate (xs.length + 1) 0)) => mulAddVWW_c w.heap.size b o c1 c xs _ y 0 w1 (by simp) (words_zeros _) hr1 hx (by omega) (fun j hj => (hb1.cell (p := ⟨b, o + j, none⟩) hlt).trans (hc j hj)) hlt ⟨by omega, hy.2⟩ ⟨by omega, by omega⟩)
  simp only [List.length_replicate] at HV
  clear hc hy k3 k2 hx hne
  have E1 : Hid (((xs.length : Int) + 1) = ((xs.length + 1 : Nat) : Int)) := Lib.hid (by omega)
  go_enter Tryz.func163, Tryz.ntmps163
  go_wp2_with (first
    | (go_at_call 161; rw [E1.out]; with_reducible refine (HMk.out _).mono ?_; rintro e w1 ⟨c1, rfl, hc1, hc2, hr1, hb1, hz1⟩; have HC1 := Lib.hid (And.intro hc1 hc2); have hq1 : xs.length ≤ c1 := (by omega); have HR1 := Lib.hid hr1; have HB1 := Lib.hid hb1; have hlt1 : w.heap.size < w1.heap.size := (by rw [hz1]; exact Nat.lt_succ_self _); clear hr1 hb1 hz1 hc1 hc2)
    | (go_at_call 184; with_reducible refine (HV.out _ _ HB1.out HR1.out).mono ?_; rintro e w2 ⟨D, cc, rfl, hD1, hD2, hb2⟩; have HD := Lib.hid (wm_end hD1); have HDl := Lib.hid hD1.len; have hjD : xs.length < D.length := (by rw [hD1.len]; exact Nat.lt_succ_self _); obtain ⟨q1, q2, q3, q4⟩ := irow_step (v := cc) hD2 hjD (HB1.out.trans hb2) (Nat.le_refl _); have Q3 := Lib.hid q3; have Q4 := Lib.hid q4; have HL2 := Lib.hid (Nat.lt_of_lt_of_le hlt1 hb2.size); clear hD1 hD2 hb2 q3 q4)
    | (go_at_call 166; rw [E1.out]; refine (norm_own _ (xs.length + 1) _ _ _ (by rw [List.length_set]; exact HDl.out) HC1.out.1 (by have := HC1.out.2; omega) Q3.out (by have := HL2.out; simpa using this) HD.out.2).mono ?_; rintro e w3 ⟨rfl, i, ys, rfl, y1, y2, y3, y4, y5, y6⟩; have Y := Lib.hid (And.intro y1 (And.intro y2 (And.intro y3 (And.intro y4 (And.intro y5 y6))))); clear y1 y2 y3 y4 y5 y6))
  go_ret
  obtain ⟨y1, y2, y3, y4, y5, y6⟩ := Y.out
  exact ⟨_, ys, rfl, y1, y2, y3, by rw [y4, HD.out.1, Int.add_zero], by omega, Q4.out⟩
end Go.Proofs.YtkplnbjgkhmbcaaGreatDoor
