/- Bytes to words, the length of a nat in bits, its low word. -/
import Derived.Test.YtkkmnglnnfmnaaaGreatDoorIBase
import Derived.Test.YtkkmnglnnfmnaaaGreatDoorNum
import Derived.Test.YtkkmnglnnfmnaaaGreatDoorShelfBits
import Derived.Laws.BitsAllLaws
import Derived.RegionTactic
import Derived.Laws.OwnMore
import Derived.Deep.QuietTactic
import Derived.Deep.RegionWith
namespace Go.Proofs.YtkkmnglnnfmnaaaGreatDoor
open Go.RowKit
set_option linter.unusedVariables false
set_option linter.unusedSimpArgs false

theorem or_join32 (a b : Int) (n : Nat) (ha : 0 ≤ a) (h2 : a < 2 ^ n) (hb : 0 ≤ b) (hz : b % 2 ^ n = 0) (h4 : b < 4294967296) (hn : n ≤ 32) : Go.bits .or .u32 a b = a + b := by
  have hp : (2 : Int) ^ n ≤ 4294967296 := by
    have : 2 ^ n ≤ 2 ^ 32 := Nat.pow_le_pow_right (by omega) hn
    have h := Int.ofNat_le.2 this
    simpa using h
  obtain ⟨x, rfl⟩ := Int.eq_ofNat_of_zero_le ha
  obtain ⟨y, rfl⟩ := Int.eq_ofNat_of_zero_le hb
  rw [u32_or_nat x y (by omega) (by omega), Nat.or_comm, nat_join n y x (by exact_mod_cast hz) (by exact_mod_cast h2)]
  push_cast
  omega
theorem or_join64 (a b : Int) (n : Nat) (ha : 0 ≤ a) (h2 : a < 2 ^ n) (hb : 0 ≤ b) (hz : b % 2 ^ n = 0) (h4 : b < 18446744073709551616) (hn : n ≤ 64) : Go.bits .or .u64 b a = a + b := by
  have hp : (2 : Int) ^ n ≤ 18446744073709551616 := by
    have : 2 ^ n ≤ 2 ^ 64 := Nat.pow_le_pow_right (by omega) hn
    have h := Int.ofNat_le.2 this
    simpa using h
  obtain ⟨x, rfl⟩ := Int.eq_ofNat_of_zero_le ha
  obtain ⟨y, rfl⟩ := Int.eq_ofNat_of_zero_le hb
  rw [u64_or_nat y x (by omega) (by omega), nat_join n y x (by exact_mod_cast hz) (by exact_mod_cast h2)]
  push_cast
  omega
theorem be32_or (x0 x1 x2 x3 : Int) (h0 : 0 ≤ x0 ∧ x0 < 256) (h1 : 0 ≤ x1 ∧ x1 < 256) (h2 : 0 ≤ x2 ∧ x2 < 256) (h3 : 0 ≤ x3 ∧ x3 < 256) :
    Go.bits .or .u32 (Go.bits .or .u32 (Go.bits .or .u32 x3 (x2 * 256)) (x1 * 65536)) (x0 * 16777216) = beN [x0, x1, x2, x3] := by
  rw [or_join32 x3 (x2 * 256) 8 (by omega) (by omega) (by omega) (by omega) (by omega) (by omega), or_join32 _ (x1 * 65536) 16 (by omega) (by omega) (by omega) (by omega) (by omega) (by omega), or_join32 _ (x0 * 16777216) 24 (by omega) (by omega) (by omega) (by omega) (by omega) (by omega)]
  simp only [beN, List.foldl_cons, List.foldl_nil]
  omega

set_option maxRecDepth 100000 in
theorem beUint32_c (b o n c : Nat) (x0 x1 x2 x3 : Int) (w : World) (h0 : 0 ≤ x0 ∧ x0 < 256) (h1 : 0 ≤ x1 ∧ x1 < 256) (h2 : 0 ≤ x2 ∧ x2 < 256) (h3 : 0 ≤ x3 ∧ x3 < 256) (hn : 4 ≤ n)
    (c0 : w.cell? ⟨b, o, none⟩ = some (.int .u8 x0)) (c1 : w.cell? ⟨b, o + 1, none⟩ = some (.int .u8 x1)) (c2 : w.cell? ⟨b, o + 2, none⟩ = some (.int .u8 x2)) (c3 : w.cell? ⟨b, o + 3, none⟩ = some (.int .u8 x3)) :
    Calls Tryz.prog 54 #[.slice (some ⟨b, o, none⟩) n c] w fun e w' => e = .returned (.int .u32 (beN [x0, x1, x2, x3])) ∧ Below w.heap.size w w' := by
  have HE := Lib.hid (be32_or x0 x1 x2 x3 h0 h1 h2 h3)
  have e0 : x0 % 4294967296 = x0 := by omega
  have e1 : x1 % 4294967296 = x1 := by omega
  have e2 : x2 % 4294967296 = x2 := by omega
  have e3 : x3 % 4294967296 = x3 := by omega
  have m2 : (x2 * 256) % 4294967296 = x2 * 256 := by omega
  have m1 : (x1 * 65536) % 4294967296 = x1 * 65536 := by omega
  have m0 : (x0 * 16777216) % 4294967296 = x0 * 16777216 := by omega
  have n3 : (3 : Int) < (n : Int) := by omega
  have n2 : (2 : Int) < (n : Int) := by omega
  have n1 : (1 : Int) < (n : Int) := by omega
  have n0 : (0 : Int) < (n : Int) := by omega
  clear h0 h1 h2 h3 hn
  go_enter Tryz.func54, Tryz.ntmps54
  go_wp2
  go_region
  all_goals go_wp2
  all_goals go_ret
  all_goals exact ⟨by rw [HE.out]; rfl, (Below.refl _ _).drew⟩

theorem wrap_u64 (x : Int) : IntKind.u64.wrap x = x % 18446744073709551616 := by simp [IntKind.wrap, IntKind.signed, IntKind.bits]
theorem be64_or (x0 x1 x2 x3 x4 x5 x6 x7 : Int) (h0 : 0 ≤ x0 ∧ x0 < 256) (h1 : 0 ≤ x1 ∧ x1 < 256) (h2 : 0 ≤ x2 ∧ x2 < 256) (h3 : 0 ≤ x3 ∧ x3 < 256) (h4 : 0 ≤ x4 ∧ x4 < 256) (h5 : 0 ≤ x5 ∧ x5 < 256) (h6 : 0 ≤ x6 ∧ x6 < 256) (h7 : 0 ≤ x7 ∧ x7 < 256) :
    Go.bits .or .u64 (beN [x0, x1, x2, x3] * 4294967296) (beN [x4, x5, x6, x7]) = beN [x0, x1, x2, x3, x4, x5, x6, x7] := by
  have e1 : beN [x0, x1, x2, x3] = x0 * 16777216 + x1 * 65536 + x2 * 256 + x3 := by simp only [beN, List.foldl_cons, List.foldl_nil]; omega
  have e2 : beN [x4, x5, x6, x7] = x4 * 16777216 + x5 * 65536 + x6 * 256 + x7 := by simp only [beN, List.foldl_cons, List.foldl_nil]; omega
  rw [or_join64 (beN [x4, x5, x6, x7]) (beN [x0, x1, x2, x3] * 4294967296) 32 (by omega) (by omega) (by omega) (by omega) (by omega) (by omega), e1, e2]
  simp only [beN, List.foldl_cons, List.foldl_nil]
  omega

set_option maxRecDepth 100000 in
theorem beUint64_c (b o n c : Nat) (x0 x1 x2 x3 x4 x5 x6 x7 : Int) (w : World) (h0 : 0 ≤ x0 ∧ x0 < 256) (h1 : 0 ≤ x1 ∧ x1 < 256) (h2 : 0 ≤ x2 ∧ x2 < 256) (h3 : 0 ≤ x3 ∧ x3 < 256) (h4 : 0 ≤ x4 ∧ x4 < 256) (h5 : 0 ≤ x5 ∧ x5 < 256) (h6 : 0 ≤ x6 ∧ x6 < 256) (h7 : 0 ≤ x7 ∧ x7 < 256) (hn : 8 ≤ n) (hnc : n ≤ c) (hb : b < w.heap.size)
    (c0 : w.cell? ⟨b, o, none⟩ = some (.int .u8 x0)) (c1 : w.cell? ⟨b, o + 1, none⟩ = some (.int .u8 x1)) (c2 : w.cell? ⟨b, o + 2, none⟩ = some (.int .u8 x2)) (c3 : w.cell? ⟨b, o + 3, none⟩ = some (.int .u8 x3))
    (c4 : w.cell? ⟨b, o + 4, none⟩ = some (.int .u8 x4)) (c5 : w.cell? ⟨b, o + 5, none⟩ = some (.int .u8 x5)) (c6 : w.cell? ⟨b, o + 6, none⟩ = some (.int .u8 x6)) (c7 : w.cell? ⟨b, o + 7, none⟩ = some (.int .u8 x7)) :
    Calls Tryz.prog 53 #[.slice (some ⟨b, o, none⟩) n c] w fun e w' => e = .returned (.int .u64 (beN [x0, x1, x2, x3, x4, x5, x6, x7])) ∧ Below w.heap.size w w' := by
  have HE := Lib.hid (be64_or x0 x1 x2 x3 x4 x5 x6 x7 h0 h1 h2 h3 h4 h5 h6 h7)
  have e1 : beN [x0, x1, x2, x3] = x0 * 16777216 + x1 * 65536 + x2 * 256 + x3 := by simp only [beN, List.foldl_cons, List.foldl_nil]; omega
  have e2 : beN [x4, x5, x6, x7] = x4 * 16777216 + x5 * 65536 + x6 * 256 + x7 := by simp only [beN, List.foldl_cons, List.foldl_nil]; omega
  have HC1 : Hid (∀ w', Below w.heap.size w w' → Calls Tryz.prog 54 #[.slice (some ⟨b, o, none⟩) n c] w' fun e w'' => e = .returned (.int .u32 (beN [x0, x1, x2, x3])) ∧ Below w'.heap.size w' w'') := by
    intro w' hw
    have k := fun (j : Nat) => hw.cell (p := ⟨b, j, none⟩) hb
    exact beUint32_c b o n c x0 x1 x2 x3 w' h0 h1 h2 h3 (by omega) (by rw [k]; exact c0) (by rw [k]; exact c1) (by rw [k]; exact c2) (by rw [k]; exact c3)
  have HC2 : Hid (∀ w', Below w.heap.size w w' → Calls Tryz.prog 54 #[.slice (some ⟨b, o + 4, none⟩) (n - 4) (c - 4)] w' fun e w'' => e = .returned (.int .u32 (beN [x4, x5, x6, x7])) ∧ Below w'.heap.size w' w'') := by
    intro w' hw
    have k := fun (j : Nat) => hw.cell (p := ⟨b, j, none⟩) hb
    exact beUint32_c b (o + 4) (n - 4) (c - 4) x4 x5 x6 x7 w' h4 h5 h6 h7 (by omega) (by rw [k]; exact c4) (by rw [k]; exact c5) (by rw [k]; exact c6) (by rw [k]; exact c7)
  obtain ⟨p, hp⟩ : ∃ p, beN [x0, x1, x2, x3] = p := ⟨_, rfl⟩
  obtain ⟨q, hq⟩ : ∃ q, beN [x4, x5, x6, x7] = q := ⟨_, rfl⟩
  rw [hp] at HC1 HE e1
  rw [hq] at HC2 HE e2
  have w1 : IntKind.u64.wrap p = p := by rw [wrap_u64]; omega
  have w2 : IntKind.u64.wrap q = q := by rw [wrap_u64]; omega
  have w3 : IntKind.u64.wrap (p * 4294967296) = p * 4294967296 := by rw [wrap_u64]; omega
  have n7 : (7 : Int) < (n : Int) := by omega
  have n4 : (4 : Int) ≤ (n : Int) := by omega
  have n4' : 4 ≤ n := by omega
  have HB0 : Hid (Below w.heap.size w w) := Below.refl _ _
  clear hp hq e1 e2 h0 h1 h2 h3 h4 h5 h6 h7 hn c0 c1 c2 c3 c4 c5 c6
  go_enter Tryz.func53, Tryz.ntmps53
  go_wp2
  go_region_with (first
    | (go_at_call_of 54 (Value.slice (some ⟨b, o, none⟩) n c); refine (HC1.out _ (by first | exact HB0.out | exact HB0.out.drew)).mono ?_; rintro e w1 ⟨rfl, hb1⟩; replace HB0 : Hid (Below w.heap.size w w1) := by first | exact HB0.out.trans hb1 | exact HB0.out.trans (hb1.mono HB0.out.size) | exact HB0.out.drew.trans (hb1.mono (by simp))
       clear hb1)
    | (go_at_call 54; refine (HC2.out _ (by first | exact HB0.out | exact HB0.out.drew)).mono ?_; rintro e w1 ⟨rfl, hb1⟩; replace HB0 : Hid (Below w.heap.size w w1) := by first | exact HB0.out.trans hb1 | exact HB0.out.trans (hb1.mono HB0.out.size) | exact HB0.out.drew.trans (hb1.mono (by simp))
       clear hb1))
  all_goals go_wp2
  all_goals go_ret
  all_goals exact ⟨congrArg (fun z => Ending.returned (.int .u64 z)) HE.out, HB0.out⟩

set_option maxRecDepth 100000 in
theorem bigWord_c (b o n c : Nat) (x0 x1 x2 x3 x4 x5 x6 x7 : Int) (w : World) (h0 : 0 ≤ x0 ∧ x0 < 256) (h1 : 0 ≤ x1 ∧ x1 < 256) (h2 : 0 ≤ x2 ∧ x2 < 256) (h3 : 0 ≤ x3 ∧ x3 < 256) (h4 : 0 ≤ x4 ∧ x4 < 256) (h5 : 0 ≤ x5 ∧ x5 < 256) (h6 : 0 ≤ x6 ∧ x6 < 256) (h7 : 0 ≤ x7 ∧ x7 < 256) (hn : 8 ≤ n) (hnc : n ≤ c) (hb : b < w.heap.size)
    (c0 : w.cell? ⟨b, o, none⟩ = some (.int .u8 x0)) (c1 : w.cell? ⟨b, o + 1, none⟩ = some (.int .u8 x1)) (c2 : w.cell? ⟨b, o + 2, none⟩ = some (.int .u8 x2)) (c3 : w.cell? ⟨b, o + 3, none⟩ = some (.int .u8 x3))
    (c4 : w.cell? ⟨b, o + 4, none⟩ = some (.int .u8 x4)) (c5 : w.cell? ⟨b, o + 5, none⟩ = some (.int .u8 x5)) (c6 : w.cell? ⟨b, o + 6, none⟩ = some (.int .u8 x6)) (c7 : w.cell? ⟨b, o + 7, none⟩ = some (.int .u8 x7)) :
    Calls Tryz.prog 47 #[.slice (some ⟨b, o, none⟩) n c] w fun e w' => e = .returned (.int .u64 (beN [x0, x1, x2, x3, x4, x5, x6, x7])) ∧ Below w.heap.size w w' := by
  have HC := Lib.hid (beUint64_c b o n c x0 x1 x2 x3 x4 x5 x6 x7 w h0 h1 h2 h3 h4 h5 h6 h7 hn hnc hb c0 c1 c2 c3 c4 c5 c6 c7)
  clear h0 h1 h2 h3 h4 h5 h6 h7 hn c0 c1 c2 c3 c4 c5 c6 c7
  go_enter Tryz.func47, Tryz.ntmps47
  go_wp2_with (go_at_call 53; refine HC.out.mono ?_; rintro e w1 ⟨rfl, hb1⟩)
  go_ret
  exact ⟨rfl, hb1⟩

/-- Its place in a row of bits. -/
theorem bitLen_eq (n : Nat) : ∀ x : Nat, 2 ^ n ≤ x → x < 2 ^ (n + 1) → n < 64 → Lib.bitLen x = n + 1 := by
  induction n with
  | zero =>
    intro x h1 h2 _
    obtain rfl : x = 1 := by simp at h1 h2; omega
    decide +kernel
  | succ n ih =>
    intro x h1 h2 hn
    have hp : (2 : Nat) ^ (n + 1 + 1) ≤ 2 ^ 64 := Nat.pow_le_pow_right (by omega) (by omega)
    have e1 : (2 : Nat) ^ (n + 1) = 2 ^ n * 2 := Nat.pow_succ 2 n
    have e2 : (2 : Nat) ^ (n + 1 + 1) = 2 ^ (n + 1) * 2 := Nat.pow_succ 2 (n + 1)
    have hz := Nat.two_pow_pos n
    rw [Lib.bitLen_half x (by omega) (by omega), ih (x / 2) (by omega) (by omega) (by omega)]
    omega
theorem smear (x y n : Nat) (h1 : 2 ^ n ≤ x) (h2 : x < 2 ^ (n + 1)) (h3 : y ≤ x) : 2 ^ n ≤ x ||| y ∧ x ||| y < 2 ^ (n + 1) :=
  ⟨Nat.le_trans h1 (Nat.left_le_or), Nat.or_lt_two_pow h2 (by omega)⟩
theorem or_nat (a b : Int) (h0 : 0 ≤ a) (h1 : a < 18446744073709551616) (h2 : 0 ≤ b) (h3 : b < 18446744073709551616) : Go.bits .or .u64 a b = ((a.toNat ||| b.toNat : Nat) : Int) := u64_or a b h0 h1 h2 h3
/-- One smearing step. -/
theorem smear_step (a b : Int) (n : Nat) (h0 : 0 ≤ a) (h1 : a < 18446744073709551616) (hb : 0 ≤ b) (hba : b ≤ a) (h2 : 2 ^ n ≤ a.toNat) (h3 : a.toNat < 2 ^ (n + 1)) (hn : n < 64) :
    0 ≤ Go.bits .or .u64 a b ∧ Go.bits .or .u64 a b < 18446744073709551616 ∧ 2 ^ n ≤ (Go.bits .or .u64 a b).toNat ∧ (Go.bits .or .u64 a b).toNat < 2 ^ (n + 1) := by
  rw [or_nat a b h0 h1 hb (by omega)]
  obtain ⟨s1, s2⟩ := smear a.toNat b.toNat n h2 h3 (by omega)
  have : (2 : Nat) ^ (n + 1) ≤ 2 ^ 64 := Nat.pow_le_pow_right (by omega) (by omega)
  refine ⟨by omega, by omega, by simpa using s1, by simpa using s2⟩

set_option maxRecDepth 100000 in
theorem bitLen0_c (c : Nat) (A : Option Addr) (w : World) : Calls Tryz.prog 55 #[.slice A 0 c] w fun e w' => e = .returned (.int .i64 0) ∧ w' = w := by
  go_enter Tryz.func55, Tryz.ntmps55
  go_wp2
  go_ret
  exact ⟨rfl, rfl⟩

set_option maxRecDepth 100000 in
/-- The length in bits of a row of words whose highest is x, not 0. -/
theorem bitLen_c (b o n c : Nat) (x : Int) (w : World) (hn : 0 < n) (hm : n ≤ 4398046511104) (h0 : 0 < x) (h1 : x < 18446744073709551616) (hc : w.cell? ⟨b, o + (n - 1), none⟩ = some (.int .u64 x)) :
    Calls Tryz.prog 55 #[.slice (some ⟨b, o, none⟩) n c] w fun e w' => e = .returned (.int .i64 ((n - 1) * 64 + Lib.bitLen x.toNat)) ∧ w' = w := by
  obtain ⟨m, rfl⟩ : ∃ m, n = m + 1 := ⟨n - 1, by omega⟩
  obtain ⟨k, hk1, hk2⟩ : ∃ k, 2 ^ k ≤ x.toNat ∧ x.toNat < 2 ^ (k + 1) := ⟨x.toNat.log2, Nat.log2_self_le (by omega), Nat.lt_log2_self⟩
  have hk : k < 64 := by
    rcases Nat.lt_or_ge k 64 with h | h
    · exact h
    · have : (2 : Nat) ^ 64 ≤ 2 ^ k := Nat.pow_le_pow_right (by omega) h
      omega
  have hL := bitLen_eq k x.toNat hk1 hk2 hk
  obtain ⟨y1, e1⟩ : ∃ y, Go.bits .or .u64 x (x / 2) = y := ⟨_, rfl⟩
  have s1 := smear_step x (x / 2) k (by omega) h1 (by omega) (by omega) hk1 hk2 hk
  rw [e1] at s1
  obtain ⟨y2, e2⟩ : ∃ y, Go.bits .or .u64 y1 (y1 / 4) = y := ⟨_, rfl⟩
  have s2 := smear_step y1 (y1 / 4) k (by omega) s1.2.1 (by omega) (by omega) s1.2.2.1 s1.2.2.2 hk
  rw [e2] at s2
  obtain ⟨y3, e3⟩ : ∃ y, Go.bits .or .u64 y2 (y2 / 16) = y := ⟨_, rfl⟩
  have s3 := smear_step y2 (y2 / 16) k (by omega) s2.2.1 (by omega) (by omega) s2.2.2.1 s2.2.2.2 hk
  rw [e3] at s3
  obtain ⟨y4, e4⟩ : ∃ y, Go.bits .or .u64 y3 (y3 / 256) = y := ⟨_, rfl⟩
  have s4 := smear_step y3 (y3 / 256) k (by omega) s3.2.1 (by omega) (by omega) s3.2.2.1 s3.2.2.2 hk
  rw [e4] at s4
  obtain ⟨y5, e5⟩ : ∃ y, Go.bits .or .u64 y4 (y4 / 65536) = y := ⟨_, rfl⟩
  have s5 := smear_step y4 (y4 / 65536) k (by omega) s4.2.1 (by omega) (by omega) s4.2.2.1 s4.2.2.2 hk
  rw [e5] at s5
  obtain ⟨y6, e6⟩ : ∃ y, Go.bits .or .u64 y5 (y5 / 65536 / 65536) = y := ⟨_, rfl⟩
  have s6 := smear_step y5 (y5 / 65536 / 65536) k (by omega) s5.2.1 (by omega) (by omega) s5.2.2.1 s5.2.2.2 hk
  rw [e6] at s6
  have hL6 := bitLen_eq k y6.toNat s6.2.2.1 s6.2.2.2 hk
  have HL := Lib.hid (And.intro hL hL6)
  have HC := Lib.hid (fun w => bitsLen y6 w s6.1 (by omega))
  clear s1 s2 s3 s4 s5 s6 hL hL6 hk1 hk2 h0 h1
  replace hc : w.cell? ⟨b, o + m, none⟩ = some (.int .u64 x) := hc
  go_enter Tryz.func55, Tryz.ntmps55
  go_wp2_with (go_at_call 57; refine (HC.out _).mono ?_; rintro e w1 ⟨rfl, rfl⟩)
  go_ret
  refine ⟨congrArg (fun z => Ending.returned (.int .i64 z)) (show wrap64 ((m : Int) * 64 + (Lib.bitLen y6.toNat : Nat)) = _ from ?_), rfl⟩
  have h1 := HL.out
  rw [h1.1, h1.2]
  unfold wrap64
  omega

set_option maxRecDepth 100000 in
theorem low64_c (b o n c : Nat) (x : Int) (w : World) (hn : 0 < n) (hc : w.cell? ⟨b, o, none⟩ = some (.int .u64 x)) (h0 : 0 ≤ x) (h1 : x < 18446744073709551616) :
    Calls Tryz.prog 51 #[.slice (some ⟨b, o, none⟩) n c] w fun e w' => e = .returned (.int .u64 x) ∧ w' = w := by
  have n0 : (0 : Int) < (n : Int) := by omega
  have nb : ((n : Int) == 0) = false := by simp; omega
  go_enter Tryz.func51, Tryz.ntmps51
  go_wp2
  go_ret
  exact ⟨rfl, rfl⟩
set_option maxRecDepth 100000 in
theorem low64_nil (c : Nat) (A : Option Addr) (w : World) : Calls Tryz.prog 51 #[.slice A 0 c] w fun e w' => e = .returned (.int .u64 0) ∧ w' = w := by
  go_enter Tryz.func51, Tryz.ntmps51
  go_wp2
  go_ret
  exact ⟨rfl, rfl⟩
end Go.Proofs.YtkkmnglnnfmnaaaGreatDoor
