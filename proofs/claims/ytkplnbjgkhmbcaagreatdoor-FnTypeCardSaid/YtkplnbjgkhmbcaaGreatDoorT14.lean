/- HashF TreeDict TreeClean ValOpenN HashG HtA HashH -/
import Derived.Test.YtkplnbjgkhmbcaaGreatDoorT13
import Derived.Test.YtkplnbjgkhmbcaaGreatDoorT12
namespace Go.Proofs.YtkplnbjgkhmbcaaGreatDoor
open Go.RowKit Go.Shelf Go.Proofs.YtkplnbjgkhmbcaaGreatDoorW.PrintWords Go.Proofs.YtkplnbjgkhmbcaaGreatDoorW.PrintLast Go.Proofs.YtkplnbjgkhmbcaaGreatDoorW.PrintMore Go.Proofs.YtkplnbjgkhmbcaaGreatDoor.PFnCompare Go.Proofs.YtkplnbjgkhmbcaaGreatDoor.PCmp Go.Proofs.YtkplnbjgkhmbcaaGreatDoor.PbytesOf Go.Proofs.YtkplnbjgkhmbcaaGreatDoor.Pcmp
set_option linter.unusedVariables false
set_option linter.unusedSimpArgs false
theorem newInt64_c (x : Int) (w : World) (hs : -9223372036854775808 ≤ x ∧ x < 9223372036854775808) : Calls Tryz.prog 144 #[.int .i64 x] w (NewI w x) := by
  rcases Int.lt_trichotomy x 0 with h | h | h
  · have e1 : IntKind.u64.wrap (-IntKind.u64.wrap x) = -x := by
      have hw : ∀ z : Int, IntKind.u64.wrap z = z % 18446744073709551616 := fun z => by simp [IntKind.wrap, IntKind.signed, IntKind.bits]
      rw [hw, hw]; omega
    have HE := Lib.hid (newI_of w x (-x) true)
    go_enter Tryz.func144, Tryz.ntmps144
    go_wp2
    go_ret
    exact HE.out _ (by omega) (by simp)
  · exact newInt_c x w (by subst h; decide)
  · have e2 : decide (x < 0) = false := by simp; omega
    have HE := Lib.hid (newI_of w x x false)
    go_enter Tryz.func144, Tryz.ntmps144
    go_wp2
    go_ret
    exact HE.out _ (by omega) (by simp)
theorem Sl.far {B : Nat} {w : World} {v : Value} {l : List Int} (h : Sl .u64 B w v l) {g0 o0 : Nat} {y : Value} (hy : w.cell? ⟨g0, o0, none⟩ = some y) (hn : ∀ z, y ≠ .int .u64 z) (u : Value) : Sl .u64 B (w.setCell ⟨g0, o0, none⟩ u) v l := by
  obtain ⟨A, c, rfl, h1, h2, h3⟩ := h
  refine ⟨A, c, rfl, h1, h2, fun hne => ?_⟩
  obtain ⟨b, o, rfl, hB, hlt, hc⟩ := h3 hne
  refine ⟨b, o, rfl, hB, by simpa [World.setCell] using hlt, fun j hj => ?_⟩
  rw [cell_setCell_ne w ⟨g0, o0, none⟩ ⟨b, o + j, none⟩ u ?_]
  · exact hc j hj
  · by_cases e : g0 = b
    · by_cases e2 : o0 = o + j
      · subst e e2
        rw [hc j hj] at hy
        injection hy with hy
        exact absurd hy.symm (hn _)
      · exact Or.inr e2
    · exact Or.inl e
theorem PI.far {w : World} {g : Nat} {n : Bool} {v : Value} {zs : List Int} (h : PI w g 0 n v zs) {g0 o0 : Nat} {y : Value} (hg : g ≠ g0) (hy : w.cell? ⟨g0, o0, none⟩ = some y) (hn : ∀ z, y ≠ .int .u64 z) (u : Value) : PI (w.setCell ⟨g0, o0, none⟩ u) g 0 n v zs := by
  obtain ⟨⟨cs, t, hb, e0, e1⟩, hs, hw, ht⟩ := h
  exact ⟨⟨cs, t, blk_far hb hg _, e0, e1⟩, hs.far hy hn u, hw, ht⟩
theorem HIv.put2 {w : World} {g : Nat} {n : Bool} {v : Value} {zs : List Int} {g0 : Nat} {y : Int} {p : Option Addr} (h : PI w g 0 n v zs) (hg : g ≠ g0) (hk : w.heap[g0]? = some (.cells #[.int .i64 y, .pointer p] 122 (0, 0))) (a b : Value) : PI ((w.setCell ⟨g0, 0, none⟩ a).setCell ⟨g0, 1, none⟩ b) g 0 n v zs :=
  (h.far hg (blk_cell hk 0 _ rfl) (fun z e => by injection e with e; cases e) a).far hg (blk_cell (blk_put hk 0 a rfl) 1 _ rfl) (fun z e => by cases e) b
set_option maxRecDepth 100000 in
theorem makeInt64_c (x : Int) (w : World) (hx : -9223372036854775808 ≤ x ∧ x < 9223372036854775808) : Calls Tryz.prog 338 #[.int .i64 x] w fun e w' => ∃ u, e = .returned u ∧ HIv w' u x ∧ Below w.heap.size w w' := by
  have HB0 : Hid (∀ o, Below w.heap.size w (w.alloc o)) := fun o => (Below.refl _ _).alloc (Nat.le_refl _) o
  have HK0 : Hid ((w.alloc (.cells #[.int .i64 0, .pointer none] 122)).heap[w.heap.size]? = some (.cells #[.int .i64 0, .pointer none] 122 (0, 0))) := blk_new _ _
  have HN := Lib.hid (fun W => newInt64_c x W hx)
  by_cases h1 : -2147483648 ≤ x
  · have d1 : decide (-2147483648 ≤ x) = true := by simp [h1]
    by_cases h2 : x ≤ 2147483647
    · have d2 : decide (x ≤ 2147483647) = true := by simp [h2]
      have hs : sml x = true := by unfold sml; simp; omega
      have HS := Lib.hid hs
      clear hs h1 h2 hx
      go_enter Tryz.func338, Tryz.ntmps338
      go_wp2_with (go_at_call 153; (with_reducible refine (makeSmall_c _ _).mono ?_); rintro e w1 ⟨rfl, hb1⟩; have HB := Lib.hid ((HB0.out _).trans (hb1.mono (HB0.out _).size)); obtain ⟨q0, q1, f0, f1⟩ := two_cells (blk_below HK0.out hb1); clear hb1)
      refine bodyPost_ret (v := .agg #[.int .i64 x, .pointer none]) (by simp [results, Tryz.results338, go_sem, q0, q1]) rfl ⟨_, rfl, Or.inl ⟨HS.out, rfl⟩, (HB.out.setCell (p := ⟨w.heap.size, 0, none⟩) (Nat.le_refl _) _).setCell (p := ⟨w.heap.size, 1, none⟩) (Nat.le_refl _) _⟩
    · have d2 : decide (x ≤ 2147483647) = false := by simp; omega
      have hs : sml x = false := by unfold sml; simp; omega
      have HS := Lib.hid hs
      clear hs h1 h2 hx
      go_enter Tryz.func338, Tryz.ntmps338
      go_wp2_with (first
        | (go_at_call 144; (with_reducible refine (HN.out _).mono ?_); rintro e w1 ⟨g, n, v, zs, hg, rfl, hp, _, hv, _, hb1⟩; have HP := Lib.hid (And.intro hp hv); have HG := Lib.hid hg; have HB := Lib.hid ((HB0.out _).trans (hb1.mono (HB0.out _).size)); have HK := Lib.hid (blk_below HK0.out hb1); clear hp hv hg hb1)
        | (go_at_call 155; (with_reducible refine (makeBig_c _ _).mono ?_); rintro e w2 ⟨rfl, hb2⟩; have HB2 := Lib.hid (HB.out.trans (hb2.mono HB.out.size)); have HP2 := Lib.hid (HP.out.1.below hb2); have HK2 := Lib.hid (blk_below HK.out hb2); obtain ⟨q0, q1, f0, f1⟩ := two_cells HK2.out; clear hb2))
      have hgne : g ≠ w.heap.size := by have := HG.out; simp at this; omega
      refine bodyPost_ret (v := .agg #[.int .i64 0, .pointer (some ⟨g, 0, none⟩)]) (by simp [results, Tryz.results338, go_sem, q0, q1]) rfl ⟨_, rfl, Or.inr ⟨HS.out, g, n, v, zs, rfl, HIv.put2 HP2.out hgne HK2.out _ _, HP.out.2⟩, (HB2.out.setCell (p := ⟨w.heap.size, 0, none⟩) (Nat.le_refl _) _).setCell (p := ⟨w.heap.size, 1, none⟩) (Nat.le_refl _) _⟩
  · have d1 : decide (-2147483648 ≤ x) = false := by simp; omega
    have hs : sml x = false := by unfold sml; simp; omega
    have HS := Lib.hid hs
    clear hs h1 hx
    go_enter Tryz.func338, Tryz.ntmps338
    go_wp2_with (first
      | (go_at_call 144; (with_reducible refine (HN.out _).mono ?_); rintro e w1 ⟨g, n, v, zs, hg, rfl, hp, _, hv, _, hb1⟩; have HP := Lib.hid (And.intro hp hv); have HG := Lib.hid hg; have HB := Lib.hid ((HB0.out _).trans (hb1.mono (HB0.out _).size)); have HK := Lib.hid (blk_below HK0.out hb1); clear hp hv hg hb1)
      | (go_at_call 155; (with_reducible refine (makeBig_c _ _).mono ?_); rintro e w2 ⟨rfl, hb2⟩; have HB2 := Lib.hid (HB.out.trans (hb2.mono HB.out.size)); have HP2 := Lib.hid (HP.out.1.below hb2); have HK2 := Lib.hid (blk_below HK.out hb2); obtain ⟨q0, q1, f0, f1⟩ := two_cells HK2.out; clear hb2))
    have hgne : g ≠ w.heap.size := by have := HG.out; simp at this; omega
    refine bodyPost_ret (v := .agg #[.int .i64 0, .pointer (some ⟨g, 0, none⟩)]) (by simp [results, Tryz.results338, go_sem, q0, q1]) rfl ⟨_, rfl, Or.inr ⟨HS.out, g, n, v, zs, rfl, HIv.put2 HP2.out hgne HK2.out _ _, HP.out.2⟩, (HB2.out.setCell (p := ⟨w.heap.size, 0, none⟩) (Nat.le_refl _) _).setCell (p := ⟨w.heap.size, 1, none⟩) (Nat.le_refl _) _⟩
theorem ord_worth {a b : Nat} {s t : Bool} {m n : Nat} {p q : Int} (ha : fdat a = .number s m p) (hb : fdat b = .number t n q) (hp : -1074 ≤ p) (hq : -1074 ≤ q) :
    f64ord a b = some (compare (smag s m * 2 ^ (p + 1074).toNat) (smag t n * 2 ^ (q + 1074).toNat)) := by
  rw [ord_dat, ha, hb]
  show some (compare (Ieee.signed s m (p - min p q).toNat) (Ieee.signed t n (q - min p q).toNat)) = _
  rw [signed_eq, signed_eq]
  have hpos : (0 : Int) < 2 ^ (min p q + 1074).toNat := Int.pow_pos (by decide)
  have e1 : (p + 1074).toNat = (p - min p q).toNat + (min p q + 1074).toNat := by omega
  have e2 : (q + 1074).toNat = (q - min p q).toNat + (min p q + 1074).toNat := by omega
  rw [e1, e2, Int.pow_add, Int.pow_add, ← Int.mul_assoc, ← Int.mul_assoc]
  generalize smag s m * 2 ^ (p - min p q).toNat = x
  generalize smag t n * 2 ^ (q - min p q).toNat = y
  generalize (2 : Int) ^ (min p q + 1074).toNat = k at hpos ⊢
  congr 1
  simp only [compare, compareOfLessAndEq]
  have h1 : x < y ↔ x * k < y * k := ⟨fun h => Int.mul_lt_mul_of_pos_right h hpos, fun h => Int.lt_of_mul_lt_mul_right h (Int.le_of_lt hpos)⟩
  have h2 : x = y ↔ x * k = y * k := scale_eq hpos
  by_cases c1 : x < y
  · rw [if_pos c1, if_pos (h1.1 c1)]
  · rw [if_neg c1, if_neg (fun h => c1 (h1.2 h))]
    by_cases c2 : x = y
    · rw [if_pos c2, if_pos (h2.1 c2)]
    · rw [if_neg c2, if_neg (fun h => c2 (h2.2 h))]
theorem fmin_dat : fdat 14114281232179134464 = .number true 4503599627370496 11 := by decide
theorem ftop_dat : fdat 4890909195324358656 = .number false 4503599627370496 11 := by decide
theorem K_shift (p : Int) (hp : 0 ≤ p) : (2 : Int) ^ (p + 1074).toNat = 2 ^ p.toNat * (KN : Int) := by
  rw [show (p + 1074).toNat = p.toNat + (1074 - 0) by omega, Int.pow_add, KI_split 0 (by decide), Int.pow_zero, Int.one_mul]
theorem two63 : (4503599627370496 : Int) * 2 ^ (11 + 1074 : Int).toNat = 9223372036854775808 * (KN : Int) := by
  rw [K_shift 11 (by decide), ← Int.mul_assoc]
  rfl
theorem tdiv_in {W K : Int} (hK : 0 < K) (h1 : -9223372036854775808 * K ≤ W) (h2 : W < 9223372036854775808 * K) : -9223372036854775808 ≤ W.tdiv K ∧ W.tdiv K < 9223372036854775808 := by
  have hm := Int.mul_tdiv_add_tmod W K
  rcases Int.lt_or_le W 0 with h | h
  · have h3 : -K < W.tmod K := by have := Int.lt_tmod_of_pos W hK; exact this
    have h4 : W.tmod K ≤ 0 := by
      have := Int.tmod_nonneg K (show 0 ≤ -W by omega)
      rw [Int.neg_tmod] at this
      omega
    constructor
    · rcases Int.lt_or_le (W.tdiv K) (-9223372036854775808) with h5 | h5
      · exfalso
        have h6 : W.tdiv K ≤ -9223372036854775809 := by omega
        have h7 : K * W.tdiv K ≤ K * -9223372036854775809 := Int.mul_le_mul_of_nonneg_left h6 (Int.le_of_lt hK)
        have h8 : K * -9223372036854775809 = -9223372036854775808 * K - K := by rw [Int.mul_comm, show (-9223372036854775809 : Int) = -9223372036854775808 - 1 by decide, Int.sub_mul]; omega
        omega
      · exact h5
    · rcases Int.lt_or_le (W.tdiv K) 9223372036854775808 with h5 | h5
      · exact h5
      · exfalso
        have h7 : K * 9223372036854775808 ≤ K * W.tdiv K := Int.mul_le_mul_of_nonneg_left h5 (Int.le_of_lt hK)
        omega
  · have h3 : W.tmod K < K := Int.tmod_lt_of_pos W hK
    have h4 : 0 ≤ W.tmod K := Int.tmod_nonneg K h
    have h5 : 0 ≤ W.tdiv K := Int.tdiv_nonneg h (Int.le_of_lt hK)
    refine ⟨by omega, ?_⟩
    rcases Int.lt_or_le (W.tdiv K) 9223372036854775808 with h6 | h6
    · exact h6
    · exfalso
      have h7 : K * 9223372036854775808 ≤ K * W.tdiv K := Int.mul_le_mul_of_nonneg_left h6 (Int.le_of_lt hK)
      have h8 : K * 9223372036854775808 = 9223372036854775808 * K := Int.mul_comm _ _
      omega
theorem toInt_num (s : Bool) (m : Nat) (p : Int) : (Ieee.Datum.number s m p).toInt .zero = some (truncF s m p) := by
  show some (Ieee.signed s (Ieee.Toward.cut .zero s (m <<< p.toNat) (-p).toNat) 0) = _
  rw [signed_eq]
  unfold truncF Ieee.Toward.cut
  simp only [Nat.shiftLeft_eq, Nat.one_mul, Bool.toNat_false, Nat.add_zero, Int.pow_zero, Int.mul_one, Option.some.injEq]
  congr 1
  rcases Nat.le_total (-p).toNat ((m * 2 ^ p.toNat).log2 + 2) with h | h
  · rw [Nat.min_eq_left h]
  · rw [Nat.min_eq_right h]
    have hl : m * 2 ^ p.toNat < 2 ^ ((m * 2 ^ p.toNat).log2 + 1) := Nat.lt_log2_self
    rw [Nat.div_eq_of_lt (Nat.lt_of_lt_of_le hl (Nat.pow_le_pow_right (by decide) (by omega))), Nat.div_eq_of_lt (Nat.lt_of_lt_of_le hl (Nat.pow_le_pow_right (by decide) (by omega)))]
theorem big_worth {s : Bool} {m : Nat} {p : Int} (hm : m < 9007199254740992) (hp : -1074 ≤ p) (h : ¬ (-9223372036854775808 * (KN : Int) ≤ smag s m * 2 ^ (p + 1074).toNat ∧ smag s m * 2 ^ (p + 1074).toNat < 9223372036854775808 * (KN : Int))) :
    11 ≤ p ∧ truncF s m p = smag s m * 2 ^ p.toNat ∧ sml (truncF s m p) = false := by
  have hK := KI_pos
  have hp11 : 11 ≤ p := by
    rcases Int.lt_or_le p 11 with hlt | hge
    · exfalso
      apply h
      have h1 : (2 : Int) ^ (p + 1074).toNat ≤ 1024 * (KN : Int) := by
        have h2 : (2 : Nat) ^ (p + 1074).toNat ≤ 2 ^ (10 + KE) := Nat.pow_le_pow_right (by decide) (by have := KE_eq; omega)
        rw [Nat.pow_add] at h2
        have h3 : (2 : Nat) ^ 10 * 2 ^ KE = 1024 * KN := by unfold KN; rw [show (2 : Nat) ^ 10 = 1024 from rfl]
        rw [h3] at h2
        have h4 : (((2 : Nat) ^ (p + 1074).toNat : Nat) : Int) ≤ ((1024 * KN : Nat) : Int) := Int.ofNat_le.2 h2
        rw [Int.natCast_pow, Int.natCast_mul] at h4
        exact h4
      have h0 : (0 : Int) < 2 ^ (p + 1074).toNat := Int.pow_pos (by decide)
      have h3 : (m : Int) * 2 ^ (p + 1074).toNat ≤ m * (1024 * (KN : Int)) := Int.mul_le_mul_of_nonneg_left h1 (by omega)
      have h4 : (m : Int) * (1024 * (KN : Int)) ≤ 9007199254740991 * (1024 * (KN : Int)) := Int.mul_le_mul_of_nonneg_right (by omega) (by omega)
      have h5 : (0 : Int) ≤ m * 2 ^ (p + 1074).toNat := Int.mul_nonneg (by omega) (by omega)
      clear h
      unfold smag
      cases s
      · simp only [Bool.false_eq_true, if_false]
        generalize (KN : Int) = K at *
        generalize (m : Int) * 2 ^ (p + 1074).toNat = X at *
        omega
      · simp only [if_true, Int.neg_mul]
        generalize (KN : Int) = K at *
        generalize (m : Int) * 2 ^ (p + 1074).toNat = X at *
        omega
    · exact hge
  have ht : truncF s m p = smag s m * 2 ^ p.toNat := by
    unfold truncF
    rw [show (-p).toNat = 0 by omega, Nat.pow_zero, Nat.div_one]
    unfold smag
    cases s
    · simp
    · simp [Int.neg_mul]
  refine ⟨hp11, ht, ?_⟩
  rw [ht]
  rw [K_shift p (by omega), ← Int.mul_assoc] at h
  generalize smag s m * 2 ^ p.toNat = x at h
  unfold sml
  simp only [decide_eq_false_iff_not]
  intro hx
  apply h
  constructor
  · exact Int.mul_le_mul_of_nonneg_right (by omega) (Int.le_of_lt hK)
  · exact Int.mul_lt_mul_of_pos_right (by omega) hK
set_option maxRecDepth 100000 in
set_option maxHeartbeats 1000000 in
theorem cleanDict_c (m : Nat) (hm8 : m ≤ 8) (d d' : Int) (hdd : d - 1 = d') (hw : IntKind.i64.wrap d' = d') (x : VT) (A2 : Option Addr) (c2 : Nat) (A5 : Option Addr) (n5 c5 : Nat) (w : World) (h : RawN (m + 1) w x A2 c2 A5 n5 c5)
    (ih : ∀ (x : VT) (A2 : Option Addr) (c2 : Nat) (A5 : Option Addr) (n5 c5 : Nat) (w : World), RawN m w x A2 c2 A5 n5 c5 → Calls Tryz.prog 9 #[.agg (six5 x A2 c2 A5 n5 c5), .int .i64 d'] w (CleanN m w)) :
    Calls Tryz.prog 25 #[.agg (six5 x A2 c2 A5 n5 c5), .int .i64 d] w (CleanN (m + 1) w) := by
  obtain ⟨a0, a1, a2, a3, a4, a5⟩ := x
  dsimp only [six5] at *
  have HKM := Lib.hid h.2.2
  have hn5 : n5 ≤ 9223372036854775807 := h.2.1
  have HIH := Lib.hid ih
  obtain ⟨F, hF⟩ : ∃ F : Nat → Prop, F = fun j => w.heap.size + 3 ≤ j := ⟨_, rfl⟩
  have hF1 : ∀ j, F j → Free w.heap.size j := by rw [hF]; intro j h; exact Or.inr h
  have hF2 : ∀ j, w.heap.size + 3 ≤ j → F j := by rw [hF]; intro j h; exact h
  have hdw : IntKind.i64.wrap (d - 1) = d' := by rw [hdd]; exact hw
  obtain ⟨W0, hW0⟩ : ∃ W, W = (((w.alloc (.cells #[.int .i64 a0, .bool a1, .slice A2 a2.length c2, .int .u64 a3, .string a4, .slice A5 n5 c5] 26)).alloc (.cells zero6 26)).alloc (.cells #[.int .i64 8, .bool false, .slice none 0 0, .int .u64 0, .string ⟨#[]⟩, .slice none 0 0] 26)) := ⟨_, rfl⟩
  have HT0 : Hid (CB w w.heap.size F #[.int .i64 a0, .bool a1, .slice A2 a2.length c2, .int .u64 a3, .string a4, .slice A5 n5 c5] 8 (.slice none 0 0) [] W0) := by rw [hW0]; exact Lib.hid (CB.start w w.heap.size F _ 8 hF1 hF2)
  clear hF hF1 hF2 h ih
  go_enter Tryz.func25, Tryz.ntmps25
  go_wp2_with fail
  rw [← hW0]
  clear hW0
  go_loopw [6] (fun i wr => ∃ (j : Nat) (out : Value) (ys : List VT), j ≤ n5 ∧ j ≤ 16 ∧ i = .int .i64 (j : Int) ∧ Hid (j % 2 = 0) ∧ ys.length ≤ j ∧ Hid (Pairs m ys) ∧ Hid (CB w w.heap.size F #[.int .i64 a0, .bool a1, .slice A2 a2.length c2, .int .u64 a3, .string a4, .slice A5 n5 c5] 8 out ys wr)) (fun i _ => 16 - (intOf i).toNat)
  case atStart => exact ⟨0, _, [], Nat.zero_le _, by omega, rfl, Lib.hid rfl, Nat.le_refl _, Lib.hid (Pairs.nil m), HT0⟩
  case round =>
    clear HT0
    obtain ⟨j, out, ys, hj, hj8, rfl, HE, hys, HQ, HT⟩ := hrel
    by_cases hlt : j + 1 < n5 ∧ j < 16
    · obtain ⟨hl1, hl2⟩ := hlt
      have hl0 : j < n5 := by omega
      have hl3 : (j : Int) < 16 := by omega
      have hl4 : (j : Int) + 1 < n5 := by omega
      obtain ⟨b, o, y, P2, p2, P5, m5, p5, rfl, hb, k0, k1, k2, k3, k4, k5, hV⟩ := HKM.out j hl0
      have hB := HT.out.low
      have x0 := (hB.cell (p := ⟨b, o + j * 6, none⟩) hb).trans k0
      have x1 := (hB.cell (p := ⟨b, o + j * 6 + 1, none⟩) hb).trans k1
      have x2 := (hB.cell (p := ⟨b, o + j * 6 + 2, none⟩) hb).trans k2
      have x3 := (hB.cell (p := ⟨b, o + j * 6 + 3, none⟩) hb).trans k3
      have x4 := (hB.cell (p := ⟨b, o + j * 6 + 4, none⟩) hb).trans k4
      have x5 := (hB.cell (p := ⟨b, o + j * 6 + 5, none⟩) hb).trans k5
      have z5 := (cells6 HT.out.b1).2.2.2.2.2
      have hsz3 := HT.out.size
      have hsz : w.heap.size + 2 ≤ wr.heap.size := by omega
      have hlow : w.heap.size ≤ wr.heap.size := by omega
      have HC : Hid (Calls Tryz.prog 9 #[.agg (six5 y P2 p2 P5 m5 p5), .int .i64 d'] wr (CleanN m wr)) := Lib.hid (HIH.out y P2 p2 P5 m5 p5 wr (hV.below hB))
      obtain ⟨Ao, co, rfl, hlo, _⟩ := Kd.R_reads HT.out.row
      clear k0 k1 k2 k3 k4 k5 hV hB
      go_upto_region 6 with (first
          | (go_at_call 9; (with_reducible refine HC.out.mono ?_); rintro e w1 ⟨cs1, y1, rfl, hM, hct, hb1⟩; obtain ⟨Q2, q2, Q5, q5, rfl⟩ := m_shape hM; have HM1 := Lib.hid hM; have HCT := Lib.hid hct; have HB1 := Lib.hid hb1; clear hM hct hb1)
          | (go_at_call 52; (with_reducible refine (key_c m wr.heap.size (fun _ => True) y1 _ w1 HB1.out.size HM1.out HCT.out).mono ?_); rintro e w2 ⟨cs2, y2, rfl, hM, hct, hhk, hb2⟩; obtain ⟨R2, r2, R5, r5, rfl⟩ := m_shape hM; have HM2 := Lib.hid hM; have HK2 := Lib.hid (And.intro hct hhk); have HB2 := Lib.hid (HB1.out.trans (hb2.mono HB1.out.size)); clear hM hct hhk hb2))
      clear x0 x1 x2 x3 x4 x5
      obtain ⟨W3, hW3⟩ : ∃ W, W = w2.alloc (.cells (List.toArray [.int .i64 y2.f0, .bool y2.f1, .slice R2 y2.f2.length r2, .int .u64 y2.f3, .string y2.f4, .slice R5 y2.f5.length r5]) 26) := ⟨_, rfl⟩
      have HB3 : Hid (Below wr.heap.size wr W3) := by rw [hW3]; exact Lib.hid (HB2.out.alloc HB2.out.size _)
      have HN3 : Hid (W3.heap[w2.heap.size]? = some (.cells (List.toArray [.int .i64 y2.f0, .bool y2.f1, .slice R2 y2.f2.length r2, .int .u64 y2.f3, .string y2.f4, .slice R5 y2.f5.length r5]) 26 (0, 0))) := by rw [hW3]; exact Lib.hid (blk_new _ _)
      have HM3 : Hid (kV.M W3 wr.heap.size (fun _ => True) y2 [.int .i64 y2.f0, .bool y2.f1, .slice R2 y2.f2.length r2, .int .u64 y2.f3, .string y2.f4, .slice R5 y2.f5.length r5]) := by rw [hW3]; exact Lib.hid (Kd.M_below (Kd.M_mono _ (fun _ _ => trivial) HM2.out) ((Below.refl _ _).alloc (Nat.le_refl _) _))
      rw [← hW3]
      clear hW3
      have HT3 := Lib.hid (HT.out.below HB3.out)
      obtain ⟨x0, x1, x2, x3, x4, x5⟩ := cells6 HT3.out.b3
      obtain ⟨q0, q1, q2', q3, q4, q5'⟩ := cells6 HN3.out
      have HFC : Hid (Calls Tryz.prog 53 #[.slice Ao ys.length co, .int .i64 2, .agg (List.toArray [.int .i64 y2.f0, .bool y2.f1, .slice R2 y2.f2.length r2, .int .u64 y2.f3, .string y2.f4, .slice R5 y2.f5.length r5])] W3 fun e w' => e = .returned (.int .i64 (findR EQ ys 2 y2)) ∧ Below W3.heap.size W3 w') := Lib.hid (by
        obtain ⟨A', c', e', _, hC'⟩ := Kd.R_reads HT3.out.row
        cases e'
        exact findKids_c m hm8 Ao co ys y2 _ 2 W3 hC' ⟨_, rfl, kV.K_of_M HM3.out⟩ (by omega) (by decide) HQ.out.ct HK2.out.1)
      obtain ⟨r, hr⟩ : ∃ r, findR EQ ys 2 y2 = r := ⟨_, rfl⟩
      have HLT := Lib.hid (fun h => findR_lt (r := r) (by decide) hr h)
      rw [hr] at HFC
      clear hr
      by_cases hneg : r < 0
      · go_upto_region 7 with (first | (go_at_call 53; (with_reducible refine HFC.out.mono ?_); rintro e w4 ⟨rfl, hb4⟩; have HB4 := Lib.hid (HB3.out.trans (hb4.mono HB3.out.size)); have HN4 := Lib.hid (blk_below HN3.out hb4); have HM4 := Lib.hid (Kd.M_below HM3.out hb4); have HT4 := Lib.hid (HT3.out.below hb4); clear hb4))
        clear x0 x1 x2 x3 x4 x5 q0 q1 q2' q3 q4 q5'
        obtain ⟨j1, hj1⟩ : ∃ j1, j1 = j + 1 := ⟨_, rfl⟩
        obtain ⟨b1, o1, z, S2, s2, S5, l5, s5, es, hb', k0, k1, k2, k3, k4, k5, hV⟩ := HKM.out j1 (by omega)
        obtain ⟨rfl, rfl⟩ : b = b1 ∧ o = o1 := by cases es; exact ⟨rfl, rfl⟩
        have hB := HT4.out.low
        have x0 := (hB.cell (p := ⟨b, o + j1 * 6, none⟩) hb').trans k0
        have x1 := (hB.cell (p := ⟨b, o + j1 * 6 + 1, none⟩) hb').trans k1
        have x2 := (hB.cell (p := ⟨b, o + j1 * 6 + 2, none⟩) hb').trans k2
        have x3 := (hB.cell (p := ⟨b, o + j1 * 6 + 3, none⟩) hb').trans k3
        have x4 := (hB.cell (p := ⟨b, o + j1 * 6 + 4, none⟩) hb').trans k4
        have x5 := (hB.cell (p := ⟨b, o + j1 * 6 + 5, none⟩) hb').trans k5
        have z5' := (cells6 HT4.out.b1).2.2.2.2.2
        have t50 := (cells6 HT4.out.b3).2.2.2.2.2
        have hsz4 : w.heap.size + 2 ≤ w4.heap.size := by have := HT4.out.size; omega
        have HC2 : Hid (Calls Tryz.prog 9 #[.agg (six5 z S2 s2 S5 l5 s5), .int .i64 d'] w4.drew (CleanN m w4.drew)) := Lib.hid (HIH.out z S2 s2 S5 l5 s5 w4.drew (hV.below hB.drew))
        have HBr : Hid (Below (w.heap.size + 2) w4 w4) := Lib.hid (Below.refl _ _)
        have hkb : wr.heap.size ≤ w2.heap.size := HB2.out.size
        have hkne : w2.heap.size ≠ w.heap.size + 2 := by omega
        have HNE : Hid (some w2.heap.size ≠ (Value.slice Ao ys.length co).ownBlock) := Lib.hid (fun e => by
          obtain ⟨inner, ho⟩ := Kd.R_own HT.out.row
          have := own_lt ho _ e.symm
          omega)
        have HS : Hid (∀ W, Below (w.heap.size + 2) w4 W → W.heap[w2.heap.size]? = some (.cells (List.toArray [.int .i64 y2.f0, .bool y2.f1, .slice R2 y2.f2.length r2, .int .u64 y2.f3, .string y2.f4, .slice R5 y2.f5.length r5]) 26 (0, 0)) → (W.cell? ⟨b, o + j1 * 6, none⟩ = some (.int .i64 z.f0) ∧ W.cell? ⟨b, o + j1 * 6 + 1, none⟩ = some (.bool z.f1) ∧ W.cell? ⟨b, o + j1 * 6 + 2, none⟩ = some (.slice S2 z.f2.length s2) ∧ W.cell? ⟨b, o + j1 * 6 + 3, none⟩ = some (.int .u64 z.f3) ∧ W.cell? ⟨b, o + j1 * 6 + 4, none⟩ = some (.string z.f4) ∧ W.cell? ⟨b, o + j1 * 6 + 5, none⟩ = some (.slice S5 l5 s5)) ∧ (W.cell? ⟨w2.heap.size, 0, none⟩ = some (.int .i64 y2.f0) ∧ W.cell? ⟨w2.heap.size, 1, none⟩ = some (.bool y2.f1) ∧ W.cell? ⟨w2.heap.size, 2, none⟩ = some (.slice R2 y2.f2.length r2) ∧ W.cell? ⟨w2.heap.size, 3, none⟩ = some (.int .u64 y2.f3) ∧ W.cell? ⟨w2.heap.size, 4, none⟩ = some (.string y2.f4) ∧ W.cell? ⟨w2.heap.size, 5, none⟩ = some (.slice R5 y2.f5.length r5)) ∧ W.cell? ⟨w.heap.size, 5, none⟩ = some (.slice (some ⟨b, o, none⟩) n5 c5)) := Lib.hid fun W hW hN => by
          have hb2 : b < w.heap.size + 2 := by omega
          exact ⟨⟨(hW.cell (p := ⟨b, o + j1 * 6, none⟩) hb2).trans x0, (hW.cell (p := ⟨b, o + j1 * 6 + 1, none⟩) hb2).trans x1, (hW.cell (p := ⟨b, o + j1 * 6 + 2, none⟩) hb2).trans x2, (hW.cell (p := ⟨b, o + j1 * 6 + 3, none⟩) hb2).trans x3, (hW.cell (p := ⟨b, o + j1 * 6 + 4, none⟩) hb2).trans x4, (hW.cell (p := ⟨b, o + j1 * 6 + 5, none⟩) hb2).trans x5⟩, cells6 hN, (hW.cell (p := ⟨w.heap.size, 5, none⟩) (by show w.heap.size < _; omega)).trans z5'⟩
        have HJ := Lib.hid hj1
        have e1 : (j : Int) + 1 = (j1 : Int) := by omega
        have e3 : IntKind.i64.wrap (j1 : Int) = (j1 : Int) := IntWalk.i64_in _ (by omega)
        have e5 : IntKind.i64.wrap ((j : Int) + 1) = (j1 : Int) := by rw [e1]; exact e3
        have hjx : j1 < n5 := by omega
        clear k0 k1 k2 k3 k4 k5 hV hB x0 x1 x2 x3 x4 x5 z5 z5' hj1 es
        refine wp_region_held_drew (S := fun W => (W.cell? ⟨b, o + j1 * 6, none⟩ = some (.int .i64 z.f0) ∧ W.cell? ⟨b, o + j1 * 6 + 1, none⟩ = some (.bool z.f1) ∧ W.cell? ⟨b, o + j1 * 6 + 2, none⟩ = some (.slice S2 z.f2.length s2) ∧ W.cell? ⟨b, o + j1 * 6 + 3, none⟩ = some (.int .u64 z.f3) ∧ W.cell? ⟨b, o + j1 * 6 + 4, none⟩ = some (.string z.f4) ∧ W.cell? ⟨b, o + j1 * 6 + 5, none⟩ = some (.slice S5 l5 s5)) ∧ (W.cell? ⟨w2.heap.size, 0, none⟩ = some (.int .i64 y2.f0) ∧ W.cell? ⟨w2.heap.size, 1, none⟩ = some (.bool y2.f1) ∧ W.cell? ⟨w2.heap.size, 2, none⟩ = some (.slice R2 y2.f2.length r2) ∧ W.cell? ⟨w2.heap.size, 3, none⟩ = some (.int .u64 y2.f3) ∧ W.cell? ⟨w2.heap.size, 4, none⟩ = some (.string y2.f4) ∧ W.cell? ⟨w2.heap.size, 5, none⟩ = some (.slice R5 y2.f5.length r5)) ∧ W.cell? ⟨w.heap.size, 5, none⟩ = some (.slice (some ⟨b, o, none⟩) n5 c5)) (by kernel_rfl) (HS.out _ HBr.out.drew (blk_drew HN4.out)) (fun hHeld => ?_)
        refine wpAnyH_take (i := 0) (oi := _) (v := ?_) rfl (by kernel_rfl) (by kernel_rfl) (by kernel_rfl) (fun _ _ _ h => h) (Or.inl ⟨by rfl, ?_⟩) (by assumption) ?_; rotate_left 1; · (intro w hSw; (try dsimp only at hSw); go_simp; first | done | with_reducible rfl)
        try simp only [Act.put, List.setIfInBounds_toArray, List.set_cons_zero, List.set_cons_succ, List.getElem_toArray, List.getElem_cons_zero, List.getElem_cons_succ]
        refine wpAnyH_take (i := 2) (oi := _) (v := ?_) rfl (by kernel_rfl) (by kernel_rfl) (by kernel_rfl) (fun _ _ _ h => h) (Or.inl ⟨by rfl, ?_⟩) (by assumption) ?_; rotate_left 1; · (intro w hSw; (try dsimp only at hSw); go_simp; first | done | with_reducible rfl)
        try simp only [Act.put, List.setIfInBounds_toArray, List.set_cons_zero, List.set_cons_succ, List.getElem_toArray, List.getElem_cons_zero, List.getElem_cons_succ]
        refine wpAnyH_take (i := 3) (oi := _) (v := ?_) rfl (by kernel_rfl) (by kernel_rfl) (by kernel_rfl) (fun _ _ _ h => h) (Or.inl ⟨by rfl, ?_⟩) (by assumption) ?_; rotate_left 1; · (intro w hSw; (try dsimp only at hSw); go_simp; first | done | with_reducible rfl)
        try simp only [Act.put, List.setIfInBounds_toArray, List.set_cons_zero, List.set_cons_succ, List.getElem_toArray, List.getElem_cons_zero, List.getElem_cons_succ]
        refine wpAnyH_take (i := 4) (oi := _) (v := ?_) rfl (by kernel_rfl) (by kernel_rfl) (by kernel_rfl) (fun _ _ _ h => h) (Or.inl ⟨by rfl, ?_⟩) (by assumption) ?_; rotate_left 1; · (intro w hSw; (try dsimp only at hSw); go_simp; first | done | with_reducible rfl)
        try simp only [Act.put, List.setIfInBounds_toArray, List.set_cons_zero, List.set_cons_succ, List.getElem_toArray, List.getElem_cons_zero, List.getElem_cons_succ]
        refine wpAnyH_take (i := 5) (oi := _) (v := ?_) rfl (by kernel_rfl) (by kernel_rfl) (by kernel_rfl) (fun _ _ _ h => h) (Or.inl ⟨by rfl, ?_⟩) (by assumption) ?_; rotate_left 1; · (intro w hSw; (try dsimp only at hSw); go_simp; first | done | with_reducible rfl)
        try simp only [Act.put, List.setIfInBounds_toArray, List.set_cons_zero, List.set_cons_succ, List.getElem_toArray, List.getElem_cons_zero, List.getElem_cons_succ]
        refine wpAnyH_take (i := 6) (oi := _) (v := ?_) rfl (by kernel_rfl) (by kernel_rfl) (by kernel_rfl) (fun _ _ _ h => h) (Or.inl ⟨by rfl, ?_⟩) (by assumption) ?_; rotate_left 1; · (intro w hSw; (try dsimp only at hSw); go_simp; first | done | with_reducible rfl)
        try simp only [Act.put, List.setIfInBounds_toArray, List.set_cons_zero, List.set_cons_succ, List.getElem_toArray, List.getElem_cons_zero, List.getElem_cons_succ]
        refine wpAnyH_take (i := 7) (oi := _) (v := ?_) rfl (by kernel_rfl) (by kernel_rfl) (by kernel_rfl) (fun _ _ _ h => h) (Or.inl ⟨by rfl, ?_⟩) (by assumption) ?_; rotate_left 1; · (intro w hSw; (try dsimp only at hSw); go_simp; first | done | with_reducible rfl)
        try simp only [Act.put, List.setIfInBounds_toArray, List.set_cons_zero, List.set_cons_succ, List.getElem_toArray, List.getElem_cons_zero, List.getElem_cons_succ]
        refine wpAnyH_take (i := 8) (oi := _) (v := ?_) rfl (by kernel_rfl) (by kernel_rfl) (by kernel_rfl) (fun _ _ _ h => h) (Or.inl ⟨by rfl, ?_⟩) (by assumption) ?_; rotate_left 1; · (intro w hSw; (try dsimp only at hSw); go_simp; first | done | with_reducible rfl)
        try simp only [Act.put, List.setIfInBounds_toArray, List.set_cons_zero, List.set_cons_succ, List.getElem_toArray, List.getElem_cons_zero, List.getElem_cons_succ]
        refine wpAnyH_take (i := 9) (oi := _) (v := ?_) rfl (by kernel_rfl) (by kernel_rfl) (by kernel_rfl) (fun _ _ _ h => h) (Or.inl ⟨by rfl, ?_⟩) (by assumption) ?_; rotate_left 1; · (intro w hSw; (try dsimp only at hSw); go_simp; first | done | with_reducible rfl)
        try simp only [Act.put, List.setIfInBounds_toArray, List.set_cons_zero, List.set_cons_succ, List.getElem_toArray, List.getElem_cons_zero, List.getElem_cons_succ]
        refine wpAnyH_take (i := 10) (oi := _) (v := ?_) rfl (by kernel_rfl) (by kernel_rfl) (by kernel_rfl) (fun _ _ _ h => h) (Or.inl ⟨by rfl, ?_⟩) (by assumption) ?_; rotate_left 1; · (intro w hSw; (try dsimp only at hSw); go_simp; first | done | with_reducible rfl)
        try simp only [Act.put, List.setIfInBounds_toArray, List.set_cons_zero, List.set_cons_succ, List.getElem_toArray, List.getElem_cons_zero, List.getElem_cons_succ]
        refine wpAnyH_ready (rs := [1, 11]) (by kernel_rfl) (by simp) ?_
        refine AllReadyH.cons (o := _) rfl (fun K hK => ?_) (AllReadyH.cons (o := _) rfl (fun K hK => ?_) AllReadyH.nil)
        · go_simp
          refine hK.out _ _ (HS.out _ HBr.out.drew (blk_drew HN4.out)) (fun hHeld => ?_)
          clear hK K
          try simp only [Act.put, List.setIfInBounds_toArray, List.set_cons_zero, List.set_cons_succ, List.getElem_toArray, List.getElem_cons_zero, List.getElem_cons_succ]
          refine wpAnyH_ready (rs := [11]) (by kernel_rfl) (by simp) ?_
          refine AllReadyH.cons (o := _) rfl (fun K hK => ?_) AllReadyH.nil
          go_simp; go_at_call 9; (with_reducible refine HC2.out.mono ?_); rintro e w5 ⟨cs5, y5, rfl, hM, hct, hb1⟩; obtain ⟨U2, u2, U5, u5, rfl⟩ := m_shape hM; have HB5 := Lib.hid (HBr.out.drew.trans (hb1.mono hsz4)); have HN5 := Lib.hid (blk_below (blk_drew HN4.out) hb1); have HMK := Lib.hid (Kd.M_below (w1 := w5) (show kV.M w4.drew wr.heap.size (fun _ => True) y2 [.int .i64 y2.f0, .bool y2.f1, .slice R2 y2.f2.length r2, .int .u64 y2.f3, .string y2.f4, .slice R5 y2.f5.length r5] from Kd.M_below HM4.out ((Below.refl _ _).drew)) hb1); have HMV := Lib.hid (Kd.M_lower _ (show wr.heap.size ≤ w4.drew.heap.size from HB4.out.size) hM); have HBC := Lib.hid (HB4.out.drew.trans (hb1.mono HB4.out.size)); have HT5 := Lib.hid (HT4.out.drewed.below hb1); have HCT5 := Lib.hid hct; have t5 := (cells6 HT5.out.b3).2.2.2.2.2; have tA : ∀ o, (w5.alloc o).cell? ⟨w.heap.size + 2, 5, none⟩ = some (.slice Ao ys.length co) := fun o => (cells6 (blk_alloc HT5.out.b3 o)).2.2.2.2.2; clear hM hct hb1
          refine hK.out _ _ (HS.out _ HB5.out HN5.out) (fun hHeld => ?_)
          clear hK K
          try simp only [Act.put, List.setIfInBounds_toArray, List.set_cons_zero, List.set_cons_succ, List.getElem_toArray, List.getElem_cons_zero, List.getElem_cons_succ]
          refine wpAnyH_ready (rs := [12]) (by kernel_rfl) (by simp) ?_
          refine AllReadyH.cons (o := _) rfl (fun K hK => ?_) AllReadyH.nil
          go_simp
          refine hK.out _ _ (HS.out _ (HB5.out.alloc (Nat.le_trans hsz4 HB5.out.size) _) (blk_alloc HN5.out _)) (fun hHeld => ?_)
          clear hK K
          try simp only [Act.put, List.setIfInBounds_toArray, List.set_cons_zero, List.set_cons_succ, List.getElem_toArray, List.getElem_cons_zero, List.getElem_cons_succ]
          refine wpAnyH_ready (rs := [13]) (by kernel_rfl) (by simp) ?_
          refine AllReadyH.cons (o := _) rfl (fun K hK => ?_) AllReadyH.nil
          have HTR := Lib.hid (two_rows (kidM_new HMK.out hlow) (kidM_new HMV.out hlow)); have HVA := Lib.hid (HT.out.app (okk := fun _ => False) (w1 := (w5.alloc (.cells (([.int .i64 y2.f0, .bool y2.f1, .slice R2 y2.f2.length r2, .int .u64 y2.f3, .string y2.f4, .slice R5 y2.f5.length r5] : List Value) ++ ([.int .i64 y5.f0, .bool y5.f1, .slice U2 y5.f2.length u2, .int .u64 y5.f3, .string y5.f4, .slice U5 y5.f5.length u5] : List Value)).toArray 26))) (HBC.out.alloc HBC.out.size _) (kidM_new (Kd.M_below HMK.out ((Below.refl _ _).alloc (Nat.le_refl _) _)) hlow) (fun _ h => h.elim) (Nat.le_refl _)); have HNA : Hid ((w5.alloc (.cells (([.int .i64 y2.f0, .bool y2.f1, .slice R2 y2.f2.length r2, .int .u64 y2.f3, .string y2.f4, .slice R5 y2.f5.length r5] : List Value) ++ ([.int .i64 y5.f0, .bool y5.f1, .slice U2 y5.f2.length u2, .int .u64 y5.f3, .string y5.f4, .slice U5 y5.f5.length u5] : List Value)).toArray 26)).heap[w2.heap.size]? = some (.cells (List.toArray [.int .i64 y2.f0, .bool y2.f1, .slice R2 y2.f2.length r2, .int .u64 y2.f3, .string y2.f4, .slice R5 y2.f5.length r5]) 26 (0, 0))) := Lib.hid (blk_alloc HN5.out _); have HBA : Hid (Below (w.heap.size + 2) w4 (w5.alloc (.cells (([.int .i64 y2.f0, .bool y2.f1, .slice R2 y2.f2.length r2, .int .u64 y2.f3, .string y2.f4, .slice R5 y2.f5.length r5] : List Value) ++ ([.int .i64 y5.f0, .bool y5.f1, .slice U2 y5.f2.length u2, .int .u64 y5.f3, .string y5.f4, .slice U5 y5.f5.length u5] : List Value)).toArray 26))) := Lib.hid (HB5.out.alloc (Nat.le_trans hsz4 HB5.out.size) _)
          refine Kd.R_append_rows_step kV (w0 := (w5.alloc (.cells (([.int .i64 y2.f0, .bool y2.f1, .slice R2 y2.f2.length r2, .int .u64 y2.f3, .string y2.f4, .slice R5 y2.f5.length r5] : List Value) ++ ([.int .i64 y5.f0, .bool y5.f1, .slice U2 y5.f2.length u2, .int .u64 y5.f3, .string y5.f4, .slice U5 y5.f5.length u5] : List Value)).toArray 26))) w.heap.size rfl (.tmp 36) (.tmp 47) 24 26 (.agg zero6) 88 rfl Tryz.underlying24 vInfo rfl (by decide) (by omega) (.slice Ao ys.length co) ys [y2, y5] _ 2 2 F _ rfl rfl HVA.out.2.2.2.1 HTR.out (fun _ _ h => h) HVA.out.2.1 HVA.out.2.2.1 HVA.out.2.2.2.2.1 HVA.out.2.2.2.2.2.1 (by omega) ?_; intro v1 w6 hr2 hb2 hg hat; obtain ⟨Av, cv, rfl⟩ := Kd.R_slice hr2; have HP := Lib.hid (HVA.out.2.2.2.2.2.2.push hr2 hg hat); have hz2 := HVA.out.2.2.2.2.2.2.third hg; have HB6 := Lib.hid (HVA.out.2.2.2.2.2.2.keeps hg HBA.out); have HN6 := Lib.hid (blk_grown HNA.out hg HNE.out); have u5' := (cells6 hz2).2.2.2.2.2; have uz := blk_free hz2; clear hr2 hb2 hg hat hz2
          refine hK.out _ _ (HS.out _ HB6.out HN6.out) (fun hHeld => ?_)
          clear hK K
          try simp only [Act.put, List.setIfInBounds_toArray, List.set_cons_zero, List.set_cons_succ, List.getElem_toArray, List.getElem_cons_zero, List.getElem_cons_succ]
          refine wpAnyH_take (i := 14) (oi := _) (v := ?_) rfl (by kernel_rfl) (by kernel_rfl) (by kernel_rfl) (fun _ _ _ h => h) (Or.inl ⟨by rfl, ?_⟩) (by assumption) ?_; rotate_left 1; · (intro w hSw; (try dsimp only at hSw); go_simp; first | done | with_reducible rfl)
          try simp only [Act.put, List.setIfInBounds_toArray, List.set_cons_zero, List.set_cons_succ, List.getElem_toArray, List.getElem_cons_zero, List.getElem_cons_succ]
          refine wpAnyH_ready (rs := [15]) (by kernel_rfl) (by simp) ?_
          refine AllReadyH.cons (o := _) rfl (fun K hK => ?_) AllReadyH.nil
          go_simp
          refine hK.out _ _ (HS.out _ (HB6.out.setCell (p := ⟨w.heap.size + 2, 5, none⟩) (Nat.le_refl _) _) (blk_far HN6.out hkne _)) (fun hHeld => ?_)
          clear hK K
          try simp only [Act.put, List.setIfInBounds_toArray, List.set_cons_zero, List.set_cons_succ, List.getElem_toArray, List.getElem_cons_zero, List.getElem_cons_succ]
          refine wpAnyH_done (by kernel_rfl) ?_ _
          go_wp2
          go_roundw
          case rel => exact ⟨j + 2, _, ys ++ [y2, y5], by omega, by have := HE.out; omega, by go_num, Lib.hid (by have := HE.out; omega), by simp; omega, Lib.hid (HQ.out.push HK2.out.1 HK2.out.2 HCT5.out (HLT.out hneg)), Lib.hid (cb_len HP.out (by simp))⟩
          case measure => simp [intOf]; omega
        · go_simp; go_at_call 9; (with_reducible refine HC2.out.mono ?_); rintro e w5 ⟨cs5, y5, rfl, hM, hct, hb1⟩; obtain ⟨U2, u2, U5, u5, rfl⟩ := m_shape hM; have HB5 := Lib.hid (HBr.out.drew.trans (hb1.mono hsz4)); have HN5 := Lib.hid (blk_below (blk_drew HN4.out) hb1); have HMK := Lib.hid (Kd.M_below (w1 := w5) (show kV.M w4.drew wr.heap.size (fun _ => True) y2 [.int .i64 y2.f0, .bool y2.f1, .slice R2 y2.f2.length r2, .int .u64 y2.f3, .string y2.f4, .slice R5 y2.f5.length r5] from Kd.M_below HM4.out ((Below.refl _ _).drew)) hb1); have HMV := Lib.hid (Kd.M_lower _ (show wr.heap.size ≤ w4.drew.heap.size from HB4.out.size) hM); have HBC := Lib.hid (HB4.out.drew.trans (hb1.mono HB4.out.size)); have HT5 := Lib.hid (HT4.out.drewed.below hb1); have HCT5 := Lib.hid hct; have t5 := (cells6 HT5.out.b3).2.2.2.2.2; have tA : ∀ o, (w5.alloc o).cell? ⟨w.heap.size + 2, 5, none⟩ = some (.slice Ao ys.length co) := fun o => (cells6 (blk_alloc HT5.out.b3 o)).2.2.2.2.2; clear hM hct hb1
          refine hK.out _ _ (HS.out _ HB5.out HN5.out) (fun hHeld => ?_)
          clear hK K
          try simp only [Act.put, List.setIfInBounds_toArray, List.set_cons_zero, List.set_cons_succ, List.getElem_toArray, List.getElem_cons_zero, List.getElem_cons_succ]
          refine wpAnyH_ready (rs := [1, 12]) (by kernel_rfl) (by simp) ?_
          refine AllReadyH.cons (o := _) rfl (fun K hK => ?_) (AllReadyH.cons (o := _) rfl (fun K hK => ?_) AllReadyH.nil)
          · go_simp
            refine hK.out _ _ (HS.out _ HB5.out HN5.out) (fun hHeld => ?_)
            clear hK K
            try simp only [Act.put, List.setIfInBounds_toArray, List.set_cons_zero, List.set_cons_succ, List.getElem_toArray, List.getElem_cons_zero, List.getElem_cons_succ]
            refine wpAnyH_ready (rs := [12]) (by kernel_rfl) (by simp) ?_
            refine AllReadyH.cons (o := _) rfl (fun K hK => ?_) AllReadyH.nil
            go_simp
            refine hK.out _ _ (HS.out _ (HB5.out.alloc (Nat.le_trans hsz4 HB5.out.size) _) (blk_alloc HN5.out _)) (fun hHeld => ?_)
            clear hK K
            try simp only [Act.put, List.setIfInBounds_toArray, List.set_cons_zero, List.set_cons_succ, List.getElem_toArray, List.getElem_cons_zero, List.getElem_cons_succ]
            refine wpAnyH_ready (rs := [13]) (by kernel_rfl) (by simp) ?_
            refine AllReadyH.cons (o := _) rfl (fun K hK => ?_) AllReadyH.nil
            have HTR := Lib.hid (two_rows (kidM_new HMK.out hlow) (kidM_new HMV.out hlow)); have HVA := Lib.hid (HT.out.app (okk := fun _ => False) (w1 := (w5.alloc (.cells (([.int .i64 y2.f0, .bool y2.f1, .slice R2 y2.f2.length r2, .int .u64 y2.f3, .string y2.f4, .slice R5 y2.f5.length r5] : List Value) ++ ([.int .i64 y5.f0, .bool y5.f1, .slice U2 y5.f2.length u2, .int .u64 y5.f3, .string y5.f4, .slice U5 y5.f5.length u5] : List Value)).toArray 26))) (HBC.out.alloc HBC.out.size _) (kidM_new (Kd.M_below HMK.out ((Below.refl _ _).alloc (Nat.le_refl _) _)) hlow) (fun _ h => h.elim) (Nat.le_refl _)); have HNA : Hid ((w5.alloc (.cells (([.int .i64 y2.f0, .bool y2.f1, .slice R2 y2.f2.length r2, .int .u64 y2.f3, .string y2.f4, .slice R5 y2.f5.length r5] : List Value) ++ ([.int .i64 y5.f0, .bool y5.f1, .slice U2 y5.f2.length u2, .int .u64 y5.f3, .string y5.f4, .slice U5 y5.f5.length u5] : List Value)).toArray 26)).heap[w2.heap.size]? = some (.cells (List.toArray [.int .i64 y2.f0, .bool y2.f1, .slice R2 y2.f2.length r2, .int .u64 y2.f3, .string y2.f4, .slice R5 y2.f5.length r5]) 26 (0, 0))) := Lib.hid (blk_alloc HN5.out _); have HBA : Hid (Below (w.heap.size + 2) w4 (w5.alloc (.cells (([.int .i64 y2.f0, .bool y2.f1, .slice R2 y2.f2.length r2, .int .u64 y2.f3, .string y2.f4, .slice R5 y2.f5.length r5] : List Value) ++ ([.int .i64 y5.f0, .bool y5.f1, .slice U2 y5.f2.length u2, .int .u64 y5.f3, .string y5.f4, .slice U5 y5.f5.length u5] : List Value)).toArray 26))) := Lib.hid (HB5.out.alloc (Nat.le_trans hsz4 HB5.out.size) _)
            refine Kd.R_append_rows_step kV (w0 := (w5.alloc (.cells (([.int .i64 y2.f0, .bool y2.f1, .slice R2 y2.f2.length r2, .int .u64 y2.f3, .string y2.f4, .slice R5 y2.f5.length r5] : List Value) ++ ([.int .i64 y5.f0, .bool y5.f1, .slice U2 y5.f2.length u2, .int .u64 y5.f3, .string y5.f4, .slice U5 y5.f5.length u5] : List Value)).toArray 26))) w.heap.size rfl (.tmp 36) (.tmp 47) 24 26 (.agg zero6) 88 rfl Tryz.underlying24 vInfo rfl (by decide) (by omega) (.slice Ao ys.length co) ys [y2, y5] _ 2 2 F _ rfl rfl HVA.out.2.2.2.1 HTR.out (fun _ _ h => h) HVA.out.2.1 HVA.out.2.2.1 HVA.out.2.2.2.2.1 HVA.out.2.2.2.2.2.1 (by omega) ?_; intro v1 w6 hr2 hb2 hg hat; obtain ⟨Av, cv, rfl⟩ := Kd.R_slice hr2; have HP := Lib.hid (HVA.out.2.2.2.2.2.2.push hr2 hg hat); have hz2 := HVA.out.2.2.2.2.2.2.third hg; have HB6 := Lib.hid (HVA.out.2.2.2.2.2.2.keeps hg HBA.out); have HN6 := Lib.hid (blk_grown HNA.out hg HNE.out); have u5' := (cells6 hz2).2.2.2.2.2; have uz := blk_free hz2; clear hr2 hb2 hg hat hz2
            refine hK.out _ _ (HS.out _ HB6.out HN6.out) (fun hHeld => ?_)
            clear hK K
            try simp only [Act.put, List.setIfInBounds_toArray, List.set_cons_zero, List.set_cons_succ, List.getElem_toArray, List.getElem_cons_zero, List.getElem_cons_succ]
            refine wpAnyH_take (i := 14) (oi := _) (v := ?_) rfl (by kernel_rfl) (by kernel_rfl) (by kernel_rfl) (fun _ _ _ h => h) (Or.inl ⟨by rfl, ?_⟩) (by assumption) ?_; rotate_left 1; · (intro w hSw; (try dsimp only at hSw); go_simp; first | done | with_reducible rfl)
            try simp only [Act.put, List.setIfInBounds_toArray, List.set_cons_zero, List.set_cons_succ, List.getElem_toArray, List.getElem_cons_zero, List.getElem_cons_succ]
            refine wpAnyH_ready (rs := [15]) (by kernel_rfl) (by simp) ?_
            refine AllReadyH.cons (o := _) rfl (fun K hK => ?_) AllReadyH.nil
            go_simp
            refine hK.out _ _ (HS.out _ (HB6.out.setCell (p := ⟨w.heap.size + 2, 5, none⟩) (Nat.le_refl _) _) (blk_far HN6.out hkne _)) (fun hHeld => ?_)
            clear hK K
            try simp only [Act.put, List.setIfInBounds_toArray, List.set_cons_zero, List.set_cons_succ, List.getElem_toArray, List.getElem_cons_zero, List.getElem_cons_succ]
            refine wpAnyH_done (by kernel_rfl) ?_ _
            go_wp2
            go_roundw
            case rel => exact ⟨j + 2, _, ys ++ [y2, y5], by omega, by have := HE.out; omega, by go_num, Lib.hid (by have := HE.out; omega), by simp; omega, Lib.hid (HQ.out.push HK2.out.1 HK2.out.2 HCT5.out (HLT.out hneg)), Lib.hid (cb_len HP.out (by simp))⟩
            case measure => simp [intOf]; omega
          · go_simp
            refine hK.out _ _ (HS.out _ (HB5.out.alloc (Nat.le_trans hsz4 HB5.out.size) _) (blk_alloc HN5.out _)) (fun hHeld => ?_)
            clear hK K
            try simp only [Act.put, List.setIfInBounds_toArray, List.set_cons_zero, List.set_cons_succ, List.getElem_toArray, List.getElem_cons_zero, List.getElem_cons_succ]
            refine wpAnyH_ready (rs := [1]) (by kernel_rfl) (by simp) ?_
            refine AllReadyH.cons (o := _) rfl (fun K hK => ?_) AllReadyH.nil
            go_simp
            refine hK.out _ _ (HS.out _ (HB5.out.alloc (Nat.le_trans hsz4 HB5.out.size) _) (blk_alloc HN5.out _)) (fun hHeld => ?_)
            clear hK K
            try simp only [Act.put, List.setIfInBounds_toArray, List.set_cons_zero, List.set_cons_succ, List.getElem_toArray, List.getElem_cons_zero, List.getElem_cons_succ]
            refine wpAnyH_ready (rs := [13]) (by kernel_rfl) (by simp) ?_
            refine AllReadyH.cons (o := _) rfl (fun K hK => ?_) AllReadyH.nil
            have HTR := Lib.hid (two_rows (kidM_new HMK.out hlow) (kidM_new HMV.out hlow)); have HVA := Lib.hid (HT.out.app (okk := fun _ => False) (w1 := (w5.alloc (.cells (([.int .i64 y2.f0, .bool y2.f1, .slice R2 y2.f2.length r2, .int .u64 y2.f3, .string y2.f4, .slice R5 y2.f5.length r5] : List Value) ++ ([.int .i64 y5.f0, .bool y5.f1, .slice U2 y5.f2.length u2, .int .u64 y5.f3, .string y5.f4, .slice U5 y5.f5.length u5] : List Value)).toArray 26))) (HBC.out.alloc HBC.out.size _) (kidM_new (Kd.M_below HMK.out ((Below.refl _ _).alloc (Nat.le_refl _) _)) hlow) (fun _ h => h.elim) (Nat.le_refl _)); have HNA : Hid ((w5.alloc (.cells (([.int .i64 y2.f0, .bool y2.f1, .slice R2 y2.f2.length r2, .int .u64 y2.f3, .string y2.f4, .slice R5 y2.f5.length r5] : List Value) ++ ([.int .i64 y5.f0, .bool y5.f1, .slice U2 y5.f2.length u2, .int .u64 y5.f3, .string y5.f4, .slice U5 y5.f5.length u5] : List Value)).toArray 26)).heap[w2.heap.size]? = some (.cells (List.toArray [.int .i64 y2.f0, .bool y2.f1, .slice R2 y2.f2.length r2, .int .u64 y2.f3, .string y2.f4, .slice R5 y2.f5.length r5]) 26 (0, 0))) := Lib.hid (blk_alloc HN5.out _); have HBA : Hid (Below (w.heap.size + 2) w4 (w5.alloc (.cells (([.int .i64 y2.f0, .bool y2.f1, .slice R2 y2.f2.length r2, .int .u64 y2.f3, .string y2.f4, .slice R5 y2.f5.length r5] : List Value) ++ ([.int .i64 y5.f0, .bool y5.f1, .slice U2 y5.f2.length u2, .int .u64 y5.f3, .string y5.f4, .slice U5 y5.f5.length u5] : List Value)).toArray 26))) := Lib.hid (HB5.out.alloc (Nat.le_trans hsz4 HB5.out.size) _)
            refine Kd.R_append_rows_step kV (w0 := (w5.alloc (.cells (([.int .i64 y2.f0, .bool y2.f1, .slice R2 y2.f2.length r2, .int .u64 y2.f3, .string y2.f4, .slice R5 y2.f5.length r5] : List Value) ++ ([.int .i64 y5.f0, .bool y5.f1, .slice U2 y5.f2.length u2, .int .u64 y5.f3, .string y5.f4, .slice U5 y5.f5.length u5] : List Value)).toArray 26))) w.heap.size rfl (.tmp 36) (.tmp 47) 24 26 (.agg zero6) 88 rfl Tryz.underlying24 vInfo rfl (by decide) (by omega) (.slice Ao ys.length co) ys [y2, y5] _ 2 2 F _ rfl rfl HVA.out.2.2.2.1 HTR.out (fun _ _ h => h) HVA.out.2.1 HVA.out.2.2.1 HVA.out.2.2.2.2.1 HVA.out.2.2.2.2.2.1 (by omega) ?_; intro v1 w6 hr2 hb2 hg hat; obtain ⟨Av, cv, rfl⟩ := Kd.R_slice hr2; have HP := Lib.hid (HVA.out.2.2.2.2.2.2.push hr2 hg hat); have hz2 := HVA.out.2.2.2.2.2.2.third hg; have HB6 := Lib.hid (HVA.out.2.2.2.2.2.2.keeps hg HBA.out); have HN6 := Lib.hid (blk_grown HNA.out hg HNE.out); have u5' := (cells6 hz2).2.2.2.2.2; have uz := blk_free hz2; clear hr2 hb2 hg hat hz2
            refine hK.out _ _ (HS.out _ HB6.out HN6.out) (fun hHeld => ?_)
            clear hK K
            try simp only [Act.put, List.setIfInBounds_toArray, List.set_cons_zero, List.set_cons_succ, List.getElem_toArray, List.getElem_cons_zero, List.getElem_cons_succ]
            refine wpAnyH_take (i := 14) (oi := _) (v := ?_) rfl (by kernel_rfl) (by kernel_rfl) (by kernel_rfl) (fun _ _ _ h => h) (Or.inl ⟨by rfl, ?_⟩) (by assumption) ?_; rotate_left 1; · (intro w hSw; (try dsimp only at hSw); go_simp; first | done | with_reducible rfl)
            try simp only [Act.put, List.setIfInBounds_toArray, List.set_cons_zero, List.set_cons_succ, List.getElem_toArray, List.getElem_cons_zero, List.getElem_cons_succ]
            refine wpAnyH_ready (rs := [15]) (by kernel_rfl) (by simp) ?_
            refine AllReadyH.cons (o := _) rfl (fun K hK => ?_) AllReadyH.nil
            go_simp
            refine hK.out _ _ (HS.out _ (HB6.out.setCell (p := ⟨w.heap.size + 2, 5, none⟩) (Nat.le_refl _) _) (blk_far HN6.out hkne _)) (fun hHeld => ?_)
            clear hK K
            try simp only [Act.put, List.setIfInBounds_toArray, List.set_cons_zero, List.set_cons_succ, List.getElem_toArray, List.getElem_cons_zero, List.getElem_cons_succ]
            refine wpAnyH_done (by kernel_rfl) ?_ _
            go_wp2
            go_roundw
            case rel => exact ⟨j + 2, _, ys ++ [y2, y5], by omega, by have := HE.out; omega, by go_num, Lib.hid (by have := HE.out; omega), by simp; omega, Lib.hid (HQ.out.push HK2.out.1 HK2.out.2 HCT5.out (HLT.out hneg)), Lib.hid (cb_len HP.out (by simp))⟩
            case measure => simp [intOf]; omega
      · go_wp2_with (first | (go_at_call 53; (with_reducible refine HFC.out.mono ?_); rintro e w4 ⟨rfl, hb4⟩; have HB4 := Lib.hid (HB3.out.trans (hb4.mono HB3.out.size)); have HN4 := Lib.hid (blk_below HN3.out hb4); have HM4 := Lib.hid (Kd.M_below HM3.out hb4); have HT4 := Lib.hid (HT3.out.below hb4); clear hb4))
        go_roundw
        case rel => exact ⟨j + 2, _, ys, by omega, by have := HE.out; omega, by go_num, Lib.hid (by have := HE.out; omega), by omega, HQ, HT4⟩
        case measure => simp [intOf]; omega
    · obtain ⟨Ao, Lo, co, rfl⟩ : ∃ A L c, out = .slice A L c := by obtain ⟨A, c, e⟩ := Kd.R_slice HT.out.row; exact ⟨A, _, c, e⟩
      obtain ⟨z0, z1, z2, z3, z4, z5⟩ := cells6 HT.out.b1
      obtain ⟨y0, y1, y2, y3, y4, y5⟩ := cells6 HT.out.b2
      obtain ⟨x0, x1, x2, x3, x4, x5⟩ := cells6 HT.out.b3
      have yz := blk_free HT.out.b2
      by_cases hl1 : j + 1 < n5
      all_goals
        have hl2 : ¬ ((j : Int) + 1 < n5) ∨ ¬ ((j : Int) < 16) := by omega
        first
          | have hl3 : ¬ ((j : Int) < 16) := by omega
          | have hl4 : ¬ ((j : Int) + 1 < n5) := by omega
        go_wp2
        refine bodyPost_ret (v := .agg #[.int .i64 8, .bool false, .slice none 0 0, .int .u64 0, .string ⟨#[]⟩, .slice Ao Lo co]) (by simp [results, Tryz.results25, go_sem, y0, y1, y2, y3, y4, y5]) rfl ?_
        obtain ⟨hM, hb⟩ := HT.out.final (.int .i64 8) (.bool false) (.slice none 0 0) (.int .u64 0) (.string ⟨#[]⟩) (.slice Ao Lo co)
        exact ⟨_, ⟨8, false, [], 0, ⟨#[]⟩, ys⟩, rfl, Kd.M_mono _ (fun q hq => trivial) hM, Or.inr ⟨⟨rfl, rfl, rfl, rfl⟩, (by show ys.length ≤ 16; omega), HQ.out.ct, Or.inr (Or.inr (Or.inl ⟨rfl, HQ.out.even, (by show ys.length ≤ 16; omega), HQ.out.hk, HQ.out.dist⟩))⟩, hb⟩
theorem clean_box {n : Nat} {w W0 w1 : World} {y : VT} {cs : List Value} {k : Int} (hW : Below w.heap.size w W0) (h2 : w.heap.size + 2 = W0.heap.size) (hM : kV.M w1 W0.heap.size (fun _ => True) y cs) (hc : CT n y) (hb : Below W0.heap.size W0 w1) (a b c d e f : Value) :
    CleanN n w (.returned (.agg (List.toArray cs))) ((((((w1.setCell ⟨w.heap.size + 1, 0, none⟩ a).setCell ⟨w.heap.size + 1, 1, none⟩ b).setCell ⟨w.heap.size + 1, 2, none⟩ c).setCell ⟨w.heap.size + 1, 3, none⟩ d).setCell ⟨w.heap.size + 1, 4, none⟩ e).setCell ⟨w.heap.size + 1, 5, none⟩ f) := by
  have hne : ∀ j, W0.heap.size ≤ j → j ≠ w.heap.size + 1 := fun j hj => by omega
  have hM2 : kV.M w1 W0.heap.size (fun j => W0.heap.size ≤ j) y cs := Kd.M_mono _ (fun j hj => hj.2.1) (Kd.M_bound _ hM)
  exact ⟨cs, y, rfl, Kd.M_mono _ (fun _ _ => trivial) (Kd.M_lower _ (by omega) (Kd.M_far (p := ⟨w.heap.size + 1, 5, none⟩) (Kd.M_far (p := ⟨w.heap.size + 1, 4, none⟩) (Kd.M_far (p := ⟨w.heap.size + 1, 3, none⟩) (Kd.M_far (p := ⟨w.heap.size + 1, 2, none⟩) (Kd.M_far (p := ⟨w.heap.size + 1, 1, none⟩) (Kd.M_far (p := ⟨w.heap.size + 1, 0, none⟩) hM2 hne _) hne _) hne _) hne _) hne _) hne _)), hc, below6 hW hb _ _ _ _ _ _⟩
set_option maxRecDepth 100000 in
set_option maxHeartbeats 1000000 in
theorem cleanCall_c (m : Nat) (d : Int) (hd : ¬ d ≤ 0) (x : VT) (A2 : Option Addr) (c2 : Nat) (A5 : Option Addr) (n5 c5 : Nat) (w : World) (k : Int) (hk89 : k = 8 ∨ k = 9) (hk : (wrap64 (x.f0.tmod 10 + 10)).tmod 10 = k)
    (HD : Hid (∀ W, Below w.heap.size w W → Calls Tryz.prog 25 #[.agg (six5 x A2 c2 A5 n5 c5), .int .i64 d] W (CleanN m W)))
    (HS : Hid (∀ W, Below w.heap.size w W → Calls Tryz.prog 26 #[.agg (six5 x A2 c2 A5 n5 c5), .int .i64 d] W (CleanN m W))) :
    Calls Tryz.prog 9 #[.agg (six5 x A2 c2 A5 n5 c5), .int .i64 d] w (CleanN m w) := by
  obtain ⟨a0, a1, a2, a3, a4, a5⟩ := x
  dsimp only [six5] at *
  have HB0 : Hid (Below w.heap.size w ((w.alloc (.cells #[.int .i64 a0, .bool a1, .slice A2 a2.length c2, .int .u64 a3, .string a4, .slice A5 n5 c5] 26)).alloc (.cells #[.int .i64 0, .bool false, .slice none 0 0, .int .u64 0, .string ⟨#[]⟩, .slice none 0 0] 26))) := Lib.hid (((Below.refl _ w).alloc (Nat.le_refl _) _).alloc (by simp) _)
  have HK0 : Hid (((w.alloc (.cells #[.int .i64 a0, .bool a1, .slice A2 a2.length c2, .int .u64 a3, .string a4, .slice A5 n5 c5] 26)).alloc (.cells #[.int .i64 0, .bool false, .slice none 0 0, .int .u64 0, .string ⟨#[]⟩, .slice none 0 0] 26)).heap[w.heap.size + 1]? = some (.cells #[.int .i64 0, .bool false, .slice none 0 0, .int .u64 0, .string ⟨#[]⟩, .slice none 0 0] 26 (0, 0))) := Lib.hid (by simpa using blk_new (w.alloc _) _)
  have HZ : Hid (w.heap.size + 2 = ((w.alloc (.cells #[.int .i64 a0, .bool a1, .slice A2 a2.length c2, .int .u64 a3, .string a4, .slice A5 n5 c5] 26)).alloc (.cells #[.int .i64 0, .bool false, .slice none 0 0, .int .u64 0, .string ⟨#[]⟩, .slice none 0 0] 26)).heap.size) := Lib.hid (by simp)
  rcases hk89 with rfl | rfl
  all_goals
    go_enter Tryz.func9, Tryz.ntmps9
    go_upto_region 2 with fail
    clear hk
    go_wp2_with (first
      | (go_at_call 25; (with_reducible refine (HD.out _ (by first | exact HB0.out | exact HB0.out.drew)).mono ?_); rintro e w1 ⟨cs, y, rfl, hM, hct, hb1⟩; obtain ⟨Q2, q2, Q5, q5, rfl⟩ := m_shape hM; have HE := Lib.hid (And.intro hM (And.intro hct hb1)); obtain ⟨x0, x1, x2, x3, x4, x5⟩ := cells6 (blk_below HK0.out (by first | exact hb1 | exact (Below.refl _ _).drew.trans hb1)); have hfz := fun o => blk_free (blk_below HK0.out (by first | exact hb1 | exact (Below.refl _ _).drew.trans hb1)) o; clear hM hct hb1)
      | (go_at_call 26; (with_reducible refine (HS.out _ (by first | exact HB0.out | exact HB0.out.drew)).mono ?_); rintro e w1 ⟨cs, y, rfl, hM, hct, hb1⟩; obtain ⟨Q2, q2, Q5, q5, rfl⟩ := m_shape hM; have HE := Lib.hid (And.intro hM (And.intro hct hb1)); obtain ⟨x0, x1, x2, x3, x4, x5⟩ := cells6 (blk_below HK0.out (by first | exact hb1 | exact (Below.refl _ _).drew.trans hb1)); have hfz := fun o => blk_free (blk_below HK0.out (by first | exact hb1 | exact (Below.refl _ _).drew.trans hb1)) o; clear hM hct hb1))
    refine bodyPost_ret (v := .agg #[.int .i64 y.f0, .bool y.f1, .slice Q2 y.f2.length q2, .int .u64 y.f3, .string y.f4, .slice Q5 y.f5.length q5]) (by simp [results, Tryz.results9, go_sem, x0, x1, x2, x3, x4, x5]) rfl ?_
    exact clean_box (k := 0) HB0.out HZ.out HE.out.1 HE.out.2.1 HE.out.2.2 _ _ _ _ _ _
theorem cleanTree_c : ∀ (n : Nat), n ≤ 8 → ∀ (x : VT) (A2 : Option Addr) (c2 : Nat) (A5 : Option Addr) (n5 c5 : Nat) (w : World), RawN n w x A2 c2 A5 n5 c5 → Calls Tryz.prog 9 #[.agg (six5 x A2 c2 A5 n5 c5), .int .i64 (n : Int)] w (CleanN n w)
  | 0, _, x, A2, c2, A5, n5, c5, w, h => (clean_c x _ w h.1 h.2).mono fun e w' he => cleanN_of he
  | m + 1, hm, x, A2, c2, A5, n5, c5, w, h => by
    have hd : ¬ ((m + 1 : Nat) : Int) ≤ 0 := by omega
    have hdd : ((m + 1 : Nat) : Int) - 1 = (m : Int) := by omega
    have hw : IntKind.i64.wrap (m : Int) = (m : Int) := IntWalk.i64_in _ (by omega)
    have ih := cleanTree_c m (by omega)
    obtain ⟨k, hk⟩ : ∃ k, (wrap64 (x.f0.tmod 10 + 10)).tmod 10 = k := ⟨_, rfl⟩
    have hk9 : 0 ≤ k ∧ k ≤ 9 := by
      have a1 := Int.tmod_lt_of_pos x.f0 (show (0 : Int) < 10 by omega)
      have a2 := Int.lt_tmod_of_pos x.f0 (show (0 : Int) < 10 by omega)
      rw [wrap_in _ (by omega) (by omega), Int.tmod_eq_emod_of_nonneg (by omega)] at hk
      omega
    by_cases h6 : k < 6
    · exact (cleanScaD_c _ hd x _ w h.top.1 h.top.2 (by rw [hk]; exact h6)).mono fun e w' he => cleanN_of he
    by_cases h8 : k < 8
    · exact cleanRow_c m _ _ hd hdd hw k (by omega) x A2 c2 A5 n5 c5 w h hk ih
    · exact cleanCall_c (m + 1) _ hd x A2 c2 A5 n5 c5 w k (by omega) hk (Lib.hid fun W hW => cleanDict_c m (by omega) _ _ hdd hw x A2 c2 A5 n5 c5 W (h.below hW) ih) (Lib.hid fun W hW => cleanSet_c m (by omega) _ _ hdd hw x A2 c2 A5 n5 c5 W (h.below hW) ih)
end Go.Proofs.YtkplnbjgkhmbcaaGreatDoor
namespace Go.Proofs.YtkplnbjgkhmbcaaGreatDoor
open Go.RowKit Go.Shelf Go.ChangeShapes Go.WideShapes Go.Deep Go.Proofs.YtkplnbjgkhmbcaaGreatDoorW.PrintWords Go.Proofs.YtkplnbjgkhmbcaaGreatDoorW.PrintLast Go.Proofs.YtkplnbjgkhmbcaaGreatDoorW.PrintMore Go.Proofs.YtkplnbjgkhmbcaaGreatDoor.PFnCompare Go.Proofs.YtkplnbjgkhmbcaaGreatDoor.PCmp Go.Proofs.YtkplnbjgkhmbcaaGreatDoor.PbytesOf Go.Proofs.YtkplnbjgkhmbcaaGreatDoor.Pcmp
set_option linter.unusedVariables false
set_option linter.unusedSimpArgs false
section
variable {H : Type} {enc : TypeId × Value → H} {W : World}
set_option maxRecDepth 100000 in
theorem kids_trod {fuel : Nat} {v0 v1 v2 v3 v4 v5 : Value} {y : DataW H × List MemPlace} (h : DataW.trod enc Tryz.prog W 0 (fun _ => true) true fuel 26 [v0, v1, v2, v3, v4, v5] = some y) :
    ∃ n y5, DataW.trod enc Tryz.prog W 0 (fun _ => true) true n 24 [v5] = some y5 := by
  obtain ⟨ys, n, _, _, hl, hyl, hf⟩ := DataW.trod_struct Tryz.underlying26 h
  match ys, hyl with
  | [y0, y1, y2, y3, y4, y5], _ =>
    have e3 : Tryz.prog.cellsOf 3 = 1 := by kernel_rfl
    have e4 : Tryz.prog.cellsOf 4 = 1 := by kernel_rfl
    have e22 : Tryz.prog.cellsOf 22 = 1 := by kernel_rfl
    have e23 : Tryz.prog.cellsOf 23 = 1 := by kernel_rfl
    have e9 : Tryz.prog.cellsOf 9 = 1 := by kernel_rfl
    have e24 : Tryz.prog.cellsOf 24 = 1 := by kernel_rfl
    exact ⟨n, y5, by simpa [e24] using hf 5 _ rfl⟩
set_option maxRecDepth 100000 in
theorem valN_open : ∀ (k : Nat) {fuel : Nat} {cs : List Value} {y : DataW H × List MemPlace}, DataW.trod enc Tryz.prog W 0 (fun _ => true) true fuel 26 cs = some y →
    ∃ (x : VT) (A2 A5 : Option Addr) (c2 n5 c5 : Nat), cs = [.int .i64 x.f0, .bool x.f1, .slice A2 x.f2.length c2, .int .u64 x.f3, .string x.f4, .slice A5 n5 c5] ∧ RawN k W x A2 c2 A5 n5 c5
  | 0, _, _, _, h => by
    obtain ⟨x, A2, A5, c2, n5, c5, e, hl2, hC, hR⟩ := val_open h
    exact ⟨x, A2, A5, c2, n5, c5, e, ⟨A2, c2, A5, n5, c5, rfl, hl2, hC⟩, hR⟩
  | k + 1, _, _, _, h => by
    obtain ⟨x, A2, A5, c2, n5, c5, rfl, hl2, hC, hR⟩ := val_open h
    have htop : RR W (.agg (six5 x A2 c2 A5 n5 c5)) x ∧ Raw x := ⟨⟨A2, c2, A5, n5, c5, rfl, hl2, hC⟩, hR⟩
    obtain ⟨n, y5, f5⟩ := kids_trod h
    have h6 : Tryz.prog.cellsOf 26 = 6 := by kernel_rfl
    rcases open_slice Tryz.underlying24 f5 with ⟨hcs, _⟩ | ⟨a, len, cap, m, n', D, Pl, hcs, _, hle, hmx, hm, _, hel⟩
    · simp only [List.cons.injEq, and_true, Value.slice.injEq] at hcs
      obtain ⟨e1, e2, e3⟩ := hcs
      subst e1 e2 e3
      exact ⟨x, A2, none, c2, 0, 0, rfl, htop, Nat.zero_le _, fun i hi => absurd hi (Nat.not_lt_zero _)⟩
    · simp only [List.cons.injEq, and_true, Value.slice.injEq] at hcs
      obtain ⟨e1, e2, e3⟩ := hcs
      subst e1 e2 e3
      simp only [if_true] at hm
      rw [h6] at hel
      unfold maxLen at hmx
      refine ⟨x, A2, some a, c2, n5, c5, rfl, htop, by omega, fun i hi => ?_⟩
      obtain ⟨cs', hc, ht⟩ := hel i (by omega)
      obtain ⟨z, P2, P5, p2, m5, p5, rfl, hz⟩ := valN_open k ht
      obtain ⟨_, _, hat⟩ := World.cells?_some hc
      obtain ⟨cs0, hc0, ht0⟩ := hel 0 (by omega)
      obtain ⟨x0, B2, B5, d2, q5, d5, rfl, _⟩ := val_open ht0
      obtain ⟨_, _, hat0⟩ := World.cells?_some hc0
      obtain ⟨b, o, sp⟩ := a
      have hs : sp = none := by
        have h1 := World.cell?_spot (hat0 0 (by omega))
        simpa [Addr.add] using h1
      subst hs
      have ha : ∀ j, (⟨b, o, none⟩ : Addr).add j = ⟨b, o + j, none⟩ := fun j => by
        unfold Addr.add; split <;> simp_all
      simp only [ha] at hat
      have ha2 : ∀ p j, (⟨b, p, none⟩ : Addr).add j = ⟨b, p + j, none⟩ := fun p j => by
        unfold Addr.add; split <;> simp_all
      simp only [ha2] at hat
      have k0 := hat 0 (by omega)
      exact ⟨b, o, z, P2, p2, P5, m5, p5, rfl, lt_of_cell k0, by simpa using k0, hat 1 (by omega), hat 2 (by omega), hat 3 (by omega), hat 4 (by omega), hat 5 (by omega), hz⟩
end
end Go.Proofs.YtkplnbjgkhmbcaaGreatDoor
namespace Go.Proofs.YtkplnbjgkhmbcaaGreatDoor
open Go.RowKit Go.Shelf Go.Proofs.YtkplnbjgkhmbcaaGreatDoorW.PrintWords Go.Proofs.YtkplnbjgkhmbcaaGreatDoorW.PrintLast Go.Proofs.YtkplnbjgkhmbcaaGreatDoorW.PrintMore Go.Proofs.YtkplnbjgkhmbcaaGreatDoor.PFnCompare Go.Proofs.YtkplnbjgkhmbcaaGreatDoor.PCmp Go.Proofs.YtkplnbjgkhmbcaaGreatDoor.PbytesOf Go.Proofs.YtkplnbjgkhmbcaaGreatDoor.Pcmp
set_option linter.unusedVariables false
set_option linter.unusedSimpArgs false
theorem ratNum_c (g : Nat) (na : Bool) (va vb : Value) (xs ys : List Int) (w : World) (h : RT w g na va xs vb ys) : Calls Tryz.prog 339 #[.pointer (some ⟨g, 0, none⟩)] w fun e w' => e = .returned (.pointer (some ⟨g, 0, none⟩)) ∧ w' = w := by
  have c0 := blk_cell h.blk 0 _ rfl
  clear h
  go_enter Tryz.func339, Tryz.ntmps339
  go_wp2
  go_ret
  exact ⟨rfl, rfl⟩
theorem ratDenom_c (g : Nat) (na : Bool) (va vb : Value) (xs : List Int) (w : World) (h : RT w g na va xs vb [1]) : Calls Tryz.prog 340 #[.pointer (some ⟨g, 0, none⟩)] w fun e w' => e = .returned (.pointer (some ⟨g, 2, none⟩)) ∧ w' = w := by
  have c3 := blk_cell h.blk 3 _ rfl
  obtain ⟨A, c, rfl, _⟩ := h.sb
  simp only [List.length_singleton] at c3
  clear h
  go_enter Tryz.func340, Tryz.ntmps340
  go_wp2
  go_ret
  exact ⟨rfl, rfl⟩
theorem HIv.two {w : World} {v : Value} {x : Int} {g0 : Nat} {y : Int} {p : Option Addr} (h : HIv w v x) (hk : w.heap[g0]? = some (.cells #[.int .i64 y, .pointer p] 122 (0, 0))) (a b : Value) : HIv ((w.setCell ⟨g0, 0, none⟩ a).setCell ⟨g0, 1, none⟩ b) v x := by
  rcases h with h | ⟨hs, g, n, u, zs, e, hp, hv⟩
  · exact Or.inl h
  · refine Or.inr ⟨hs, g, n, u, zs, e, HIv.put2 hp (fun e => ?_) hk a b, hv⟩
    subst e
    have h1 := hp.c0
    rw [blk_cell hk 0 _ rfl] at h1
    injection h1 with h1
    cases h1
set_option maxRecDepth 100000 in
theorem finiteFloat_c (b : Nat) (w : World) (hb : b < 18446744073709551616) (s : Bool) (m : Nat) (p : Int) (hd : fdat b = .number s m p) (hm : m < 9007199254740992) (hp : -1074 ≤ p) :
    Calls Tryz.prog 337 #[.float .f64 b] w fun e w' => ∃ u, e = .returned u ∧ HIv w' u (truncF s m p) ∧ Below w.heap.size w w' := by
  have HB0 : Hid (∀ o, Below w.heap.size w (w.alloc o)) := fun o => (Below.refl _ _).alloc (Nat.le_refl _) o
  have HK0 : Hid ((w.alloc (.cells #[.int .i64 0, .pointer none] 122)).heap[w.heap.size]? = some (.cells #[.int .i64 0, .pointer none] 122 (0, 0))) := blk_new _ _
  have ho1 : FloatKind.f64.format.order 14114281232179134464 b = some (compare (-9223372036854775808 * (KN : Int)) (smag s m * 2 ^ (p + 1074).toNat)) := by
    have := ord_worth fmin_dat hd (by decide) hp
    rw [show smag true 4503599627370496 * 2 ^ (11 + 1074 : Int).toNat = -9223372036854775808 * (KN : Int) by show -(4503599627370496 : Int) * _ = _; rw [Int.neg_mul, two63, Int.neg_mul]] at this
    exact this
  have ho2 : FloatKind.f64.format.order b 4890909195324358656 = some (compare (smag s m * 2 ^ (p + 1074).toNat) (9223372036854775808 * (KN : Int))) := by
    have := ord_worth hd ftop_dat hp (by decide)
    rw [show smag false 4503599627370496 * 2 ^ (11 + 1074 : Int).toNat = 9223372036854775808 * (KN : Int) from two63] at this
    exact this
  have hlt : ∀ x y : Int, (some (compare x y) == some Ordering.lt) = decide (x < y) := fun x y => by rw [Option.some_beq_some, cmp_lt_iff]
  have heq : ∀ x y : Int, (some (compare x y) == some Ordering.eq) = decide (x = y) := fun x y => by
    rw [Option.some_beq_some, Bool.eq_iff_iff]
    simp only [beq_iff_eq, cmp_eq_iff, decide_eq_true_eq]
  by_cases hin : -9223372036854775808 * (KN : Int) ≤ smag s m * 2 ^ (p + 1074).toNat ∧ smag s m * 2 ^ (p + 1074).toNat < 9223372036854775808 * (KN : Int)
  · have hr := tdiv_in KI_pos hin.1 hin.2
    rw [← trunc_worth s m p hp] at hr
    have d1 : (FloatKind.f64.format.order 14114281232179134464 b == some Ordering.lt || FloatKind.f64.format.order 14114281232179134464 b == some Ordering.eq) = true := by
      rw [ho1, hlt, heq]
      generalize (KN : Int) = K at hin ⊢
      simp
      omega
    have d2 : (FloatKind.f64.format.order b 4890909195324358656 == some Ordering.lt) = true := by
      rw [ho2, hlt]
      simpa using hin.2
    have hv : floatToIntVal .f64 b .i64 = some (truncF s m p) := by
      unfold floatToIntVal
      rw [show FloatKind.f64.decode b = fdat b from rfl, hd, toInt_num]
      show (if IntKind.i64.min ≤ truncF s m p ∧ truncF s m p ≤ IntKind.i64.max then _ else _) = _
      rw [if_pos ⟨by have : IntKind.i64.min = -9223372036854775808 := by decide
                     omega, by have : IntKind.i64.max = 9223372036854775807 := by decide
                               omega⟩]
    have hcv := fun w => run_convert_float_int (P := Tryz.prog) w 123 2 .f64 .i64 b (truncF s m p) (by rw [Tryz.underlying123]; rfl) Tryz.underlying2 hv
    obtain ⟨x, hx⟩ : ∃ x, truncF s m p = x := ⟨_, rfl⟩
    rw [hx] at hcv hr ⊢
    have HM := Lib.hid (fun W => makeInt64_c x W hr)
    clear ho1 ho2 hlt heq hin hv hx hr hd hm hp hb
    go_enter Tryz.func337, Tryz.ntmps337
    go_wp2_with (go_at_call 338; (with_reducible refine (HM.out _).mono ?_); rintro e w1 ⟨u, rfl, hu, hb1⟩; have HU := Lib.hid hu; have HB := Lib.hid ((HB0.out _).trans (hb1.mono (HB0.out _).size)); have HK := Lib.hid (blk_below HK0.out hb1); obtain ⟨y, q, rfl⟩ := hu.shape; obtain ⟨q0, q1, f0, f1⟩ := two_cells (blk_below HK0.out hb1); clear hu hb1)
    refine bodyPost_ret (v := .agg #[.int .i64 y, .pointer q]) (by simp [results, Tryz.results337, go_sem, q0, q1]) rfl ⟨_, rfl, HU.out.two HK.out _ _, (HB.out.setCell (p := ⟨w.heap.size, 0, none⟩) (Nat.le_refl _) _).setCell (p := ⟨w.heap.size, 1, none⟩) (Nat.le_refl _) _⟩
  · obtain ⟨hp11, ht, hs⟩ := big_worth hm hp hin
    have HR := Lib.hid (fun W => frational_c b W hb s m p hd)
    have HT := Lib.hid (And.intro hp11 (And.intro ht hs))
    have HX : Hid (∀ na xs, bval na xs * 2 ^ (-p).toNat = smag s m * 2 ^ p.toNat * leN [1] → bval na xs = truncF s m p ∧ xs ≠ []) := Lib.hid fun na xs h => by
      have e : bval na xs = truncF s m p := by
        rw [HT.out.2.1]
        rw [show (-p).toNat = 0 by omega, leN_one] at h
        simpa using h
      refine ⟨e, fun h0 => ?_⟩
      rw [h0] at e
      have := HT.out.2.2
      rw [← e] at this
      revert this
      unfold bval
      cases na <;> simp [leN, sml]
    have hd1 : (FloatKind.f64.format.order 14114281232179134464 b == some Ordering.lt || FloatKind.f64.format.order 14114281232179134464 b == some Ordering.eq) = false ∨ ((FloatKind.f64.format.order 14114281232179134464 b == some Ordering.lt || FloatKind.f64.format.order 14114281232179134464 b == some Ordering.eq) = true ∧ (FloatKind.f64.format.order b 4890909195324358656 == some Ordering.lt) = false) := by
      rw [ho1, ho2, hlt, hlt, heq]
      generalize (KN : Int) = K at hin ⊢
      generalize smag s m * 2 ^ (p + 1074).toNat = W at hin ⊢
      simp only [Bool.or_eq_false_iff, decide_eq_false_iff_not, Bool.or_eq_true, decide_eq_true_eq]
      omega
    clear ho1 ho2 hlt heq hin hp11 ht hs hd hm hp hb
    rcases hd1 with d1 | ⟨d1, d2⟩
    all_goals
      go_enter Tryz.func337, Tryz.ntmps337
      go_wp2_with (first
        | (go_at_call 65; (with_reducible refine (HR.out _).mono ?_); rintro e w1 ⟨g, na, va, xs, vb, ys, hg, rfl, k1, k2, k3, k4, k5, k6, k7, hb1, k8⟩; obtain rfl := k8 (by have := HT.out.1; omega); have HA := Lib.hid (And.intro k1 (And.intro (HX.out na xs k3) k5)); have HG := Lib.hid hg; have HB := Lib.hid ((HB0.out _).trans (hb1.mono (HB0.out _).size)); have HK := Lib.hid (blk_below HK0.out hb1); clear k1 k2 k3 k4 k5 k6 k7 k8 hb1 hg)
        | (go_at_call 339; (with_reducible refine (ratNum_c g na va vb xs [1] _ (HA.out.1.below ((Below.refl _ _).alloc (Nat.le_refl _) _))).mono ?_); rintro e w2 ⟨rfl, hw2⟩; have HW2 := Lib.hid hw2; clear hw2)
        | (go_at_call 340; (with_reducible refine (ratDenom_c g na va vb xs _ (by rw [HW2.out]; exact HA.out.1.below ((Below.refl _ _).alloc (Nat.le_refl _) _))).mono ?_); rintro e w3 ⟨rfl, hw3⟩; have HW3 := Lib.hid (hw3.trans HW2.out); clear hw3)
        | (go_at_call 203; (with_reducible refine (div1_c w1.heap.size g na va vb xs _ (by rw [HW3.out]; exact HA.out.1.below ((Below.refl _ _).alloc (Nat.le_refl _) _)) HA.out.2.1.2 (by have := HA.out.2.2; omega) (by rw [HW3.out]; exact blk_new _ _) (lt_blk HA.out.1.blk)).mono ?_); rintro e w4 ⟨rfl, ⟨u, hbi⟩, hb4⟩; rw [HW3.out] at hb4; have HBI := Lib.hid hbi; have HB4 := Lib.hid (((Below.refl w1.heap.size w1).alloc (Nat.le_refl _) _).trans hb4); clear hbi hb4)
        | (go_at_call 130; (with_reducible refine (makeBigInt_c w1.heap.size na u xs _ HBI.out (by have := HA.out.2.2; omega)).mono ?_); rintro e w5 ⟨z, rfl, hz, hb5⟩; have HZ := Lib.hid hz.hi; have HB5 := Lib.hid (HB.out.trans ((HB4.out.trans (hb5.mono HB4.out.size)).mono HB.out.size)); have HK5 := Lib.hid (blk_below HK.out (HB4.out.trans (hb5.mono HB4.out.size))); obtain ⟨y, q, rfl⟩ := hz.shape; obtain ⟨q0, q1, f0, f1⟩ := two_cells HK5.out; clear hz hb5))
      refine bodyPost_ret (v := .agg #[.int .i64 y, .pointer q]) (by simp [results, Tryz.results337, go_sem, q0, q1]) rfl ⟨_, rfl, ?_, (HB5.out.setCell (p := ⟨w.heap.size, 0, none⟩) (Nat.le_refl _) _).setCell (p := ⟨w.heap.size, 1, none⟩) (Nat.le_refl _) _⟩
      rw [← HA.out.2.1.1]
      exact HZ.out.two HK5.out _ _
theorem fdat_abs (b : Nat) : fdat (b % 9223372036854775808) = match fdat b with | .number _ m p => .number false m p | .infinity _ => .infinity false | .nan _ f => .nan false f := by
  unfold fdat Ieee.Format.read
  simp only [sw, bn, ir, lp]
  rw [Nat.mod_mod, Nat.div_eq_of_lt (Nat.mod_lt _ (by decide))]
  split
  · rfl
  · split
    · rfl
    · split <;> rfl
def finB (b : Nat) : Bool := match fdat b with | .number _ _ _ => true | _ => false
theorem fin_ord (b : Nat) (hb : b < 18446744073709551616) : (FloatKind.f64.format.order (b % 9223372036854775808) 9218868437227405311 == some Ordering.lt || FloatKind.f64.format.order (b % 9223372036854775808) 9218868437227405311 == some Ordering.eq) = finB b := by
  have ha := above_max (b % 9223372036854775808) (by omega)
  rw [fdat_abs] at ha
  rw [ord_def]
  have hn := ord_dat (b % 9223372036854775808) 9218868437227405311
  rw [fdat_abs, fmax_dat] at hn
  unfold finB
  rcases fcase b hb with ⟨s, m, p, h, _⟩ | ⟨s, h, hs⟩ | ⟨s, f, h⟩
  · rw [h] at ha hn ⊢
    simp only at ha hn
    rw [hn] at ha ⊢
    change (some (compare _ _) == some Ordering.gt) = false at ha
    change (some (compare _ _) == some Ordering.lt || some (compare _ _) == some Ordering.eq) = true
    revert ha
    generalize compare (Ieee.signed false m (p - min p 971).toNat) (Ieee.signed false 9007199254740991 (971 - min p 971).toNat) = o
    cases o <;> decide
  · rw [h] at hn ⊢
    rw [hn]
    rfl
  · rw [h] at hn ⊢
    rw [hn]
    rfl
theorem isFinite_c (b : Nat) (w : World) (hb : b < 18446744073709551616) : Calls Tryz.prog 336 #[.float .f64 b] w fun e w' => e = .returned (.bool (finB b)) ∧ w' = w := by
  have HA := Lib.hid (fun w => mabs_c b w hb)
  have HF := fin_ord b hb
  clear hb
  go_enter Tryz.func336, Tryz.ntmps336
  go_wp2_with (go_at_call 97; (with_reducible refine (HA.out _).mono ?_); rintro e w1 ⟨rfl, rfl⟩)
  go_ret
  exact ⟨by first | rfl | rw [HF], rfl⟩
set_option maxRecDepth 100000 in
theorem hashFloat_c (b : Nat) (w : World) (hb : b < 18446744073709551616) : Calls Tryz.prog 331 #[.float .f64 b] w fun e w' => e = .returned (.tuple #[.int .u32 (hashS (.float b)), .nilIface]) ∧ Below w.heap.size w w' := by
  have HI := Lib.hid (fun w => isFinite_c b w hb)
  have hF : finB b = true ∨ finB b = false := by cases finB b <;> simp
  rcases hF with hF | hF
  · obtain ⟨s, m, p, hd, hm, hp⟩ : ∃ s m p, fdat b = .number s m p ∧ m < 9007199254740992 ∧ -1074 ≤ p := by
      rcases fcase b hb with ⟨s, m, p, h, hs, hm, hp, _⟩ | ⟨s, h, hs⟩ | ⟨s, f, h⟩
      · exact ⟨s, m, p, h, hm, hp⟩
      · unfold finB at hF; rw [h] at hF; cases hF
      · unfold finB at hF; rw [h] at hF; cases hF
    have HL : Hid (hashS (.float b) = hashS (.int (truncF s m p))) := Lib.hid (by show hashF b = hashZ _; unfold hashF; rw [hd])
    have HFF := Lib.hid (fun W => finiteFloat_c b W hb s m p hd hm hp)
    rw [hF] at HI
    rw [HL.out]
    generalize truncF s m p = x at HFF ⊢
    clear hb hd hm hp hF HL
    go_enter Tryz.func331, Tryz.ntmps331
    go_wp2_with (first
      | (go_at_call 336; (with_reducible refine (HI.out _).mono ?_); rintro e w1 ⟨rfl, hw1⟩; have HW := Lib.hid hw1; clear hw1)
      | (go_at_call 337; (with_reducible refine (HFF.out _).mono ?_); rintro e w2 ⟨u, rfl, hu, hb2⟩; rw [HW.out] at hb2; have HU := Lib.hid hu; have HB := Lib.hid hb2; clear hu hb2)
      | (go_at_call 323; (with_reducible refine (hashInt_c _ _ _ HU.out).mono ?_); rintro e w3 ⟨rfl, hb3⟩; have HB3 := Lib.hid (HB.out.trans (hb3.mono HB.out.size)); clear hb3))
    go_ret2
    exact ⟨rfl, HB3.out⟩
  · have HL : Hid (hashS (.float b) = 1618033) := Lib.hid (by
      show hashF b = _
      unfold hashF
      unfold finB at hF
      split
      · rename_i h; rw [h] at hF; cases hF
      · rfl)
    rw [hF] at HI
    rw [HL.out]
    clear hb hF HL
    go_enter Tryz.func331, Tryz.ntmps331
    go_wp2_with (go_at_call 336; (with_reducible refine (HI.out _).mono ?_); rintro e w1 ⟨rfl, hw1⟩; have HW := Lib.hid hw1; clear hw1)
    go_ret2
    exact ⟨rfl, by rw [HW.out]; exact Below.refl _ _⟩
section
variable {w w' : World} {g : Nat} {T : TypeId} {tab : Bool} {es : List HEnt} {it : Int}
theorem HTab.below (h : HTab w g T tab es it) (hb : Below w.heap.size w w') : HTab w' g T tab es it := blk_below h hb
theorem HTab.c0 (h : HTab w g T tab es it) : w.cell? ⟨g, 0, none⟩ = some (if tab then .slice (some ⟨g, 1, none⟩) 1 1 else .slice none 0 0) := h.cell 0 (by decide)
theorem HTab.c41 (h : HTab w g T tab es it) : w.cell? ⟨g, 41, none⟩ = some (.pointer none) := h.cell 41 (by decide)
theorem HTab.c42 (h : HTab w g T tab es it) : w.cell? ⟨g, 42, none⟩ = some (.int .u32 es.length) := h.cell 42 (by decide)
theorem HTab.c43 (h : HTab w g T tab es it) : w.cell? ⟨g, 43, none⟩ = some (.int .u32 it) := h.cell 43 (by decide)
theorem HTab.c44 (h : HTab w g T tab es it) : w.cell? ⟨g, 44, none⟩ = some (if es.length = 0 then .pointer none else .pointer (some ⟨g, 36, none⟩)) := h.cell 44 (by decide)
theorem HTab.c45 (h : HTab w g T tab es it) : w.cell? ⟨g, 45, none⟩ = some (if tab then prevP g es.length else .pointer none) := h.cell 45 (by decide)
theorem HTab.c46 (h : HTab w g T tab es it) : w.cell? ⟨g, 46, none⟩ = some (.bool false) := h.cell 46 (by decide)
theorem HTab.slot (h : HTab w g T tab es it) (s f : Nat) (hs : s < 8) (hf : f < 5) : w.cell? ⟨g, 1 + s * 5 + f, none⟩ = some (slotF g es (7 - s) f) := by
  have hc := h.cell (1 + s * 5 + f) (by omega)
  have e : htCell g tab es it (1 + s * 5 + f) = slotF g es (7 - s) f := by
    unfold htCell
    rw [if_neg (by omega), if_pos (by omega), show (1 + s * 5 + f - 1) / 5 = s by omega, show (1 + s * 5 + f - 1) % 5 = f by omega]
  rw [hc, e]
theorem slot_empty (g : Nat) (es : List HEnt) (i : Nat) (h : es.length ≤ i) : slotF g es i 0 = .int .u32 0 := by
  unfold slotF
  rw [List.getElem?_eq_none h]
  rfl
theorem slot_full (g : Nat) (es : List HEnt) (i : Nat) (h : i < es.length) : slotF g es i 0 = .int .u32 es[i].h ∧ slotF g es i 1 = es[i].k ∧ slotF g es i 2 = es[i].v ∧ slotF g es i 3 = nextP g es.length i := by
  unfold slotF
  rw [List.getElem?_eq_getElem h]
  exact ⟨rfl, rfl, rfl, rfl⟩
end
def tailO (k : Nat) : Nat := if k = 0 then 44 else 1 + 5 * (8 - k) + 3
theorem htArr_push (g : Nat) (e : HEnt) : ∀ (es : List HEnt), es.length < 8 →
    (((((((htArr g true es 0).setIfInBounds (1 + 5 * (7 - es.length)) (.int .u32 e.h)).setIfInBounds (1 + 5 * (7 - es.length) + 1) e.k).setIfInBounds (1 + 5 * (7 - es.length) + 2) e.v).setIfInBounds (1 + 5 * (7 - es.length) + 4) (prevP g es.length)).setIfInBounds (tailO es.length) (.pointer (some ⟨g, 1 + 5 * (7 - es.length), none⟩))).setIfInBounds 45 (.pointer (some ⟨g, 1 + 5 * (7 - es.length) + 3, none⟩))).setIfInBounds 42 (.int .u32 (es.length + 1 : Nat)) = htArr g true (es ++ [e]) 0
  | [], _ => by kernel_rfl
  | [_], _ => by kernel_rfl
  | [_, _], _ => by kernel_rfl
  | [_, _, _], _ => by kernel_rfl
  | [_, _, _, _], _ => by kernel_rfl
  | [_, _, _, _, _], _ => by kernel_rfl
  | [_, _, _, _, _, _], _ => by kernel_rfl
  | [_, _, _, _, _, _, _], _ => by kernel_rfl
  | _ :: _ :: _ :: _ :: _ :: _ :: _ :: _ :: _, h => absurd h (by simp only [List.length_cons]; omega)
abbrev zeroHT : Array Value := #[.slice none 0 0, .int .u32 0, .nilIface, .nilIface, .pointer none, .pointer none, .int .u32 0, .nilIface, .nilIface, .pointer none, .pointer none, .int .u32 0, .nilIface, .nilIface, .pointer none, .pointer none, .int .u32 0, .nilIface, .nilIface, .pointer none, .pointer none, .int .u32 0, .nilIface, .nilIface, .pointer none, .pointer none, .int .u32 0, .nilIface, .nilIface, .pointer none, .pointer none, .int .u32 0, .nilIface, .nilIface, .pointer none, .pointer none, .int .u32 0, .nilIface, .nilIface, .pointer none, .pointer none, .pointer none, .int .u32 0, .int .u32 0, .pointer none, .pointer none, .bool false]
theorem ht_zero (g : Nat) : zeroHT = htArr g false [] 0 := by kernel_rfl
theorem ht_new (w : World) (T : TypeId) : HTab (w.alloc (.cells zeroHT T)) w.heap.size T false [] 0 := by rw [ht_zero w.heap.size]; exact blk_new _ _
theorem htArr_init (g : Nat) : ((htArr g false [] 0).setIfInBounds 0 (.slice (some ⟨g, 1, none⟩) 1 1)).setIfInBounds 45 (.pointer (some ⟨g, 44, none⟩)) = htArr g true [] 0 := by kernel_rfl
theorem HTab.push {w : World} {g : Nat} {T : TypeId} {es : List HEnt} (h : HTab w g T true es 0) (hk : es.length < 8) (e : HEnt) :
    HTab (((((((w.setCell ⟨g, 1 + 5 * (7 - es.length), none⟩ (.int .u32 e.h)).setCell ⟨g, 1 + 5 * (7 - es.length) + 1, none⟩ e.k).setCell ⟨g, 1 + 5 * (7 - es.length) + 2, none⟩ e.v).setCell ⟨g, 1 + 5 * (7 - es.length) + 4, none⟩ (prevP g es.length)).setCell ⟨g, tailO es.length, none⟩ (.pointer (some ⟨g, 1 + 5 * (7 - es.length), none⟩))).setCell ⟨g, 45, none⟩ (.pointer (some ⟨g, 1 + 5 * (7 - es.length) + 3, none⟩))).setCell ⟨g, 42, none⟩ (.int .u32 (es.length + 1 : Nat))) g T true (es ++ [e]) 0 :=
  blk_put (blk_put (blk_put (blk_put (blk_put (blk_put (blk_put h _ _ rfl) _ _ rfl) _ _ rfl) _ _ rfl) _ _ rfl) _ _ rfl) _ _ (htArr_push g e es hk)
theorem HTab.init {w : World} {g : Nat} {T : TypeId} (h : HTab w g T false [] 0) : HTab ((w.setCell ⟨g, 0, none⟩ (.slice (some ⟨g, 1, none⟩) 1 1)).setCell ⟨g, 45, none⟩ (.pointer (some ⟨g, 44, none⟩))) g T true [] 0 :=
  blk_put (blk_put h _ _ rfl) _ _ (htArr_init g)
theorem htMutable_c (g : Nat) (T : TypeId) (tab : Bool) (es : List HEnt) (s : ByteArray) (w : World) (h : HTab w g T tab es 0) : Calls Tryz.prog 156 #[.pointer (some ⟨g, 0, none⟩), .string s] w fun e w' => e = .returned .nilIface ∧ w' = w := by
  have c43 := h.c43
  have c46 := h.c46
  clear h
  go_enter Tryz.func156, Tryz.ntmps156
  go_wp2
  go_ret
  exact ⟨rfl, rfl⟩
theorem overloaded_c (k n : Nat) (w : World) (hk : k < 8) : Calls Tryz.prog 158 #[.int .i64 k, .int .i64 n] w fun e w' => e = .returned (.bool false) ∧ w' = w := by
  have hd : decide ((8 : Int) ≤ k) = false := by simp; omega
  have hd2 : decide ((k : Int) ≥ 8) = false := hd
  clear hk
  go_enter Tryz.func158, Tryz.ntmps158
  go_wp2
  go_ret
  exact ⟨rfl, rfl⟩
set_option maxRecDepth 100000 in
theorem htInit_c (g : Nat) (T : TypeId) (w : World) (h : HTab w g T false [] 0) : Calls Tryz.prog 157 #[.pointer (some ⟨g, 0, none⟩), .int .i64 1] w fun e w' => e = .returned (.tuple #[]) ∧ HTab w' g T true [] 0 ∧ Below g w w' := by
  have HO : Hid (∀ w : World, Calls Tryz.prog 158 #[.int .i64 1, .int .i64 1] w fun e w' => e = .returned (.bool false) ∧ w' = w) := Lib.hid fun w => overloaded_c 1 1 w (by decide)
  have HE := Lib.hid h.init
  have c0 := h.c0
  have c44 := h.c44
  have c45 := h.c45
  have f0 := h.free 0
  have f45 := h.free 45
  have HB : Hid (Below g w ((w.setCell ⟨g, 0, none⟩ (.slice (some ⟨g, 1, none⟩) 1 1)).setCell ⟨g, 45, none⟩ (.pointer (some ⟨g, 44, none⟩)))) := Lib.hid (((Below.refl g w).setCell (p := ⟨g, 0, none⟩) (Nat.le_refl _) _).setCell (p := ⟨g, 45, none⟩) (Nat.le_refl _) _)
  clear h
  go_enter Tryz.func157, Tryz.ntmps157
  go_wp2_with fail
  refine wp_loop_rounds 1 ?_
  rw [rounds_succ]
  go_wp2_with (go_at_call 158; (with_reducible refine (HO.out _).mono ?_); rintro e w1 ⟨rfl, rfl⟩)
  go_end0
  exact ⟨rfl, HE.out, HB.out⟩
structure HashAt (T : TypeId) (x : Value) (K : FuncId) : Prop where
  m : ∀ w, (method 560 T x "Hash").run Tryz.prog w = .ok (K, x) w
  e : ∀ args w, (callFunc K args).run Tryz.prog w = .ok (.enter K args) w
def HashC (w : World) (v : Value) (h : Int) : Prop := ∃ T x K, v = .iface T x ∧ HashAt T x K ∧ ∀ W, Below w.heap.size w W → Calls Tryz.prog K #[x] W fun e W' => e = .returned (.tuple #[.int .u32 h, .nilIface]) ∧ Below W.heap.size W W'
theorem HashC.below {w w' : World} {v : Value} {h : Int} (hc : HashC w v h) (hb : Below w.heap.size w w') : HashC w' v h := by
  obtain ⟨T, x, K, e, ha, hk⟩ := hc
  exact ⟨T, x, K, e, ha, fun W hW => hk W (hb.trans (hW.mono hb.size))⟩
theorem methHashNoneType (v : Value) (w : World) : (method 560 137 v "Hash").run Tryz.prog w = .ok (344, v) w := by kernel_rfl
theorem methHashBool (v : Value) (w : World) : (method 560 138 v "Hash").run Tryz.prog w = .ok (350, v) w := by kernel_rfl
theorem methHashInt (v : Value) (w : World) : (method 560 122 v "Hash").run Tryz.prog w = .ok (323, v) w := by kernel_rfl
theorem methHashFloat (v : Value) (w : World) : (method 560 123 v "Hash").run Tryz.prog w = .ok (331, v) w := by kernel_rfl
theorem methHashString (v : Value) (w : World) : (method 560 141 v "Hash").run Tryz.prog w = .ok (357, v) w := by kernel_rfl
theorem methHashBytes (v : Value) (w : World) : (method 560 142 v "Hash").run Tryz.prog w = .ok (371, v) w := by kernel_rfl
theorem methHashTuple (v : Value) (w : World) : (method 560 98 v "Hash").run Tryz.prog w = .ok (289, v) w := by kernel_rfl
theorem hashC_sca {B : Nat} {w : World} {v : Value} {s : Sca} (h : ScaV B w v s) (hf : s.fit) : HashC w v (hashS s) := by
  cases s
  · cases h
    exact ⟨_, _, 344, rfl, ⟨methHashNoneType _, enters_of Tryz.func344 (by kernel_rfl) rfl⟩, fun W _ => hashNone_c _ W⟩
  · cases h
    exact ⟨_, _, 350, rfl, ⟨methHashBool _, enters_of Tryz.func350 (by kernel_rfl) rfl⟩, fun W _ => hashBool_c _ W⟩
  · obtain ⟨u, rfl, h⟩ := h
    exact ⟨_, _, 323, rfl, ⟨methHashInt _, enters_of Tryz.func323 (by kernel_rfl) rfl⟩, fun W hW => hashInt_c _ _ W (h.below hW).hi⟩
  · cases h
    exact ⟨_, _, 331, rfl, ⟨methHashFloat _, enters_of Tryz.func331 (by kernel_rfl) rfl⟩, fun W _ => hashFloat_c _ W hf⟩
  · cases h
    exact ⟨_, _, 357, rfl, ⟨methHashString _, enters_of Tryz.func357 (by kernel_rfl) rfl⟩, fun W _ => hashStr_c _ W hf⟩
  · cases h
    exact ⟨_, _, 371, rfl, ⟨methHashBytes _, enters_of Tryz.func371 (by kernel_rfl) rfl⟩, fun W _ => hashBytes_c _ W hf⟩
theorem tupFold_succ (n : Int) (l : List Int) (k : Nat) (h : k < l.length) : tupFold n (l.take (k + 1)) = tupStep n (tupFold n (l.take k)) l[k] := by
  unfold tupFold
  rw [List.take_succ_eq_append_getElem h, List.foldl_append]
  rfl
set_option maxRecDepth 100000 in
set_option maxHeartbeats 1000000 in
theorem hashTup_c (A : Option Addr) (c : Nat) (us : List Value) (hs : List Int) (w : World) (hl : hs.length = us.length) (hn : us.length ≤ 1000)
    (hrow : us ≠ [] → ∃ M o, A = some ⟨M, o, none⟩ ∧ ∀ i (h : i < us.length), w.cell? ⟨M, o + i, none⟩ = some us[i])
    (hc : ∀ i (h1 : i < us.length) (h2 : i < hs.length), HashC w us[i] hs[i]) :
    Calls Tryz.prog 289 #[.slice A us.length c] w fun e w' => e = .returned (.tuple #[.int .u32 (tupFold (us.length : Int) hs).1, .nilIface]) ∧ Below w.heap.size w w' := by
  have HR := Lib.hid hrow
  have HC := Lib.hid hc
  clear hrow hc
  go_enter Tryz.func289, Tryz.ntmps289
  go_wp2_with fail
  go_loopw [4, 5, 12] (fun x mu i wr => ∃ (j : Nat), j ≤ us.length ∧ i = .int .i64 (j : Int) ∧ x = .int .u32 (tupFold (us.length : Int) (hs.take j)).1 ∧ mu = .int .u32 (tupFold (us.length : Int) (hs.take j)).2 ∧ Hid (Below w.heap.size w wr)) (fun _ _ i _ => us.length - (intOf i).toNat)
  case atStart => exact ⟨0, Nat.zero_le _, rfl, rfl, rfl, Lib.hid (Below.refl _ _)⟩
  case round =>
    obtain ⟨j, hj, rfl, rfl, rfl, HB⟩ := hrel
    by_cases hlt : j < us.length
    · have hlt2 : j < hs.length := by omega
      obtain ⟨M, o, rfl, hcell⟩ := HR.out (fun e => by rw [e] at hlt; simp at hlt)
      have HF := Lib.hid (tupFold_succ (us.length : Int) hs j hlt2)
      obtain ⟨T, x, K, hv, ⟨hm, he⟩, hk⟩ := HC.out j hlt hlt2
      have cj := (HB.out.cell (p := ⟨M, o + j, none⟩) (lt_of_cell (hcell j hlt))).trans (hcell j hlt)
      rw [hv] at cj
      have HK := Lib.hid (fun W hW => hk W hW)
      obtain ⟨st, hst⟩ : ∃ st, tupFold (us.length : Int) (hs.take j) = st := ⟨_, rfl⟩
      obtain ⟨y, hy⟩ : ∃ y, hs[j] = y := ⟨_, rfl⟩
      rw [hst] at HF ⊢
      rw [hy] at HF HK
      obtain ⟨x0, mu0⟩ := st
      clear hcell hk hv hst hy
      go_wp2_with (go_at_fn K; (with_reducible refine (HK.out _ HB.out).mono ?_); rintro e w1 ⟨rfl, hb1⟩; (replace HB := Lib.hid (HB.out.trans (hb1.mono HB.out.size))); clear hb1)
      go_roundw
      case rel => exact ⟨j + 1, by omega, by go_num, by rw [HF.out]; rfl, (by
        rw [HF.out]
        show Value.int .u32 _ = Value.int .u32 (IntKind.u32.wrap (mu0 + IntKind.u32.wrap (82520 + IntKind.u32.wrap ((us.length : Int) + us.length))))
        rw [wrap32, wrap32, wrap32]
        congr 1
        omega), HB⟩
      case measure => simp [intOf]; omega
    · have hje : j = us.length := by omega
      subst hje
      rw [List.take_of_length_le (by omega)]
      go_wp2
      go_ret2
      exact ⟨rfl, HB.out⟩
theorem hashC_tree : ∀ (n B : Nat) (w : World) (v : Value) (x : VT), PV B n w v x → HC n x → n ≤ 8 → HashC w v (hT x)
  | n, B, w, v, x, h, hx, hn => by
    rcases hx.cases with ⟨s, hs, hf⟩ | ⟨k7, hbox, hl, m, rfl, hk⟩
    · obtain ⟨t, ht, hft, hv⟩ := h.to_s (by rw [hs.kind]; cases s <;> simp [Sca.kind])
      rw [hT_sca ht]
      exact hashC_sca hv hft
    · rcases h with h | ⟨_, ⟨h6, _⟩ | ⟨_, sl, rfl, A, c, us, rfl, hc, hul, hrow, hP⟩ | ⟨h8, _⟩ | ⟨h9, _⟩⟩
      · exfalso; have := h.kind; omega
      · exfalso; omega
      · rw [hT_tup hx hn k7, ← hul]
        refine ⟨_, _, 289, rfl, ⟨methHashTuple _, enters_of Tryz.func289 (by kernel_rfl) rfl⟩, fun W hW => hashTup_c A c us (x.f5.map hT) W (by rw [List.length_map, hul]) (by omega) (fun hne => ?_) fun i h1 h2 => ?_⟩
        · obtain ⟨M, o, e, _, hcell⟩ := hrow hne
          exact ⟨M, o, e, fun i hi => (hW.cell (p := ⟨M, o + i, none⟩) (lt_of_cell (hcell i hi))).trans (hcell i hi)⟩
        · have h2' : i < x.f5.length := by simpa using h2
          have := hashC_tree m B w us[i] x.f5[i] (hP i h1 h2') (hk _ (List.getElem_mem h2')) (by omega)
          rw [List.getElem_map]
          exact this.below hW
      · exfalso; omega
      · exfalso; omega
end Go.Proofs.YtkplnbjgkhmbcaaGreatDoor
