/- The library's contract of bits.Len at this translation. · Bytes to words, the length of a nat in bits, its low word. · bigall's nat.setBytes. -/
import Derived.Test.YtkplnbjgkhmbcaaGreatDoorProg
import Derived.Test.YtkplnbjgkhmbcaaGreatDoorM01
import Derived.Shelf.Small.Bits
import Derived.Shelf.Strconv.Itoa0
import Derived.Laws.BitsAllLaws
import Derived.RegionTactic
import Derived.Laws.OwnMore
import Derived.Deep.QuietTactic
import Derived.Deep.RegionWith
namespace Go.Proofs.YtkplnbjgkhmbcaaGreatDoor
open Go.Shelf
def Tryz.lays129_ren : Go.Shelf.Ren := ⟨fun | 129 => 248 | n => n, fun | 3 => 3 | 4 => 4 | 5 => 5 | 9 => 9 | 46 => 264 | 53 => 23 | n => n, fun | n => n⟩
theorem Tryz.lays129 : Go.Proofs.Lays.n129 Tryz.prog Tryz.lays129_ren := {
  mixed := by kernel_rfl
  f129 := Tryz.func248.trans (congrArg some (by kernel_rfl))
  t3 := Tryz.underlying3
  a3 := Tryz.isAgg3
  z3 := Tryz.sizeOf3
  v3 := Tryz.zeroValue3
  t4 := Tryz.underlying4
  a4 := Tryz.isAgg4
  z4 := Tryz.sizeOf4
  v4 := Tryz.zeroValue4
  t5 := Tryz.underlying5
  a5 := Tryz.isAgg5
  z5 := Tryz.sizeOf5
  v5 := Tryz.zeroValue5
  t9 := Tryz.underlying9
  a9 := Tryz.isAgg9
  z9 := Tryz.sizeOf9
  v9 := Tryz.zeroValue9
  t46 := Tryz.underlying264
  a46 := Tryz.isAgg264
  z46 := Tryz.sizeOf264
  v46 := Tryz.zeroValue264
  t53 := Tryz.underlying23
  a53 := Tryz.isAgg23
  z53 := Tryz.sizeOf23
  v53 := Tryz.zeroValue23
}
def Tryz.lays125_ren : Go.Shelf.Ren := ⟨fun | 125 => 228 | 128 => 247 | 129 => 248 | n => n, fun | 3 => 3 | 4 => 4 | 5 => 5 | 9 => 9 | 46 => 264 | 51 => 165 | 53 => 23 | n => n, fun | n => n⟩
theorem Tryz.lays125 : Go.Proofs.Lays.n125 Tryz.prog Tryz.lays125_ren := {
  mixed := by kernel_rfl
  f125 := Tryz.func228.trans (congrArg some (by kernel_rfl))
  f128 := Tryz.func247.trans (congrArg some (by kernel_rfl))
  f129 := Tryz.func248.trans (congrArg some (by kernel_rfl))
  t3 := Tryz.underlying3
  a3 := Tryz.isAgg3
  z3 := Tryz.sizeOf3
  v3 := Tryz.zeroValue3
  t4 := Tryz.underlying4
  a4 := Tryz.isAgg4
  z4 := Tryz.sizeOf4
  v4 := Tryz.zeroValue4
  t5 := Tryz.underlying5
  a5 := Tryz.isAgg5
  z5 := Tryz.sizeOf5
  v5 := Tryz.zeroValue5
  t9 := Tryz.underlying9
  a9 := Tryz.isAgg9
  z9 := Tryz.sizeOf9
  v9 := Tryz.zeroValue9
  t46 := Tryz.underlying264
  a46 := Tryz.isAgg264
  z46 := Tryz.sizeOf264
  v46 := Tryz.zeroValue264
  t51 := Tryz.underlying165
  a51 := Tryz.isAgg165
  z51 := Tryz.sizeOf165
  v51 := Tryz.zeroValue165
  t53 := Tryz.underlying23
  a53 := Tryz.isAgg23
  z53 := Tryz.sizeOf23
  v53 := Tryz.zeroValue23
}
theorem bitsLen (x : Int) (w : World) (h0 : 0 ≤ x) (h1 : x ≤ 18446744073709551615) :
    Calls Tryz.prog 228 #[.int .u64 x] w fun e w' => e = .returned (.int .i64 (Lib.bitLen x.toNat)) ∧ w' = w := Any.bits_Len Tryz.lays125 x w h0 h1
#print axioms bitsLen
end Go.Proofs.YtkplnbjgkhmbcaaGreatDoor

namespace Go.Proofs.YtkplnbjgkhmbcaaGreatDoor
open Go.RowKit
set_option linter.unusedVariables false
set_option linter.unusedSimpArgs false

theorem or_join32 (a b : Int) (n : Nat) (ha : 0 ≤ a) (h2 : a < 2 ^ n) (hb : 0 ≤ b) (hz : b % 2 ^ n = 0) (h4 : b < 4294967296) (hn : n ≤ 32) : Go.bits .or .u32 a b = a + b := by
  have hp : (2 : Int) ^ n ≤ 4294967296 := by
    have : 2 ^ n ≤ 2 ^ 32 := Nat.pow_le_pow_right (by omega) hn
    have h := Int.ofNat_le.2 this
    simpa using h
  obtain ⟨x, rfl⟩ := Int.eq_ofNat_of_zero_le ha
  obtain ⟨y, rfl⟩ := Int.eq_ofNat_of_zero_le hb
  rw [u32_or_nat x y (by omega) (by omega), Nat.or_comm, nat_join n y x (by exact_mod_cast hz) (by exact_mod_cast h2)]
  push_cast
  omega
theorem or_join64 (a b : Int) (n : Nat) (ha : 0 ≤ a) (h2 : a < 2 ^ n) (hb : 0 ≤ b) (hz : b % 2 ^ n = 0) (h4 : b < 18446744073709551616) (hn : n ≤ 64) : Go.bits .or .u64 b a = a + b := by
  have hp : (2 : Int) ^ n ≤ 18446744073709551616 := by
    have : 2 ^ n ≤ 2 ^ 64 := Nat.pow_le_pow_right (by omega) hn
    have h := Int.ofNat_le.2 this
    simpa using h
  obtain ⟨x, rfl⟩ := Int.eq_ofNat_of_zero_le ha
  obtain ⟨y, rfl⟩ := Int.eq_ofNat_of_zero_le hb
  rw [u64_or_nat y x (by omega) (by omega), nat_join n y x (by exact_mod_cast hz) (by exact_mod_cast h2)]
  push_cast
  omega
theorem be32_or (x0 x1 x2 x3 : Int) (h0 : 0 ≤ x0 ∧ x0 < 256) (h1 : 0 ≤ x1 ∧ x1 < 256) (h2 : 0 ≤ x2 ∧ x2 < 256) (h3 : 0 ≤ x3 ∧ x3 < 256) :
    Go.bits .or .u32 (Go.bits .or .u32 (Go.bits .or .u32 x3 (x2 * 256)) (x1 * 65536)) (x0 * 16777216) = beN [x0, x1, x2, x3] := by
  rw [or_join32 x3 (x2 * 256) 8 (by omega) (by omega) (by omega) (by omega) (by omega) (by omega), or_join32 _ (x1 * 65536) 16 (by omega) (by omega) (by omega) (by omega) (by omega) (by omega), or_join32 _ (x0 * 16777216) 24 (by omega) (by omega) (by omega) (by omega) (by omega) (by omega)]
  simp only [beN, List.foldl_cons, List.foldl_nil]
  omega

set_option maxRecDepth 100000 in
theorem beUint32_c (b o n c : Nat) (x0 x1 x2 x3 : Int) (w : World) (h0 : 0 ≤ x0 ∧ x0 < 256) (h1 : 0 ≤ x1 ∧ x1 < 256) (h2 : 0 ≤ x2 ∧ x2 < 256) (h3 : 0 ≤ x3 ∧ x3 < 256) (hn : 4 ≤ n)
    (c0 : w.cell? ⟨b, o, none⟩ = some (.int .u8 x0)) (c1 : w.cell? ⟨b, o + 1, none⟩ = some (.int .u8 x1)) (c2 : w.cell? ⟨b, o + 2, none⟩ = some (.int .u8 x2)) (c3 : w.cell? ⟨b, o + 3, none⟩ = some (.int .u8 x3)) :
    Calls Tryz.prog 209 #[.slice (some ⟨b, o, none⟩) n c] w fun e w' => e = .returned (.int .u32 (beN [x0, x1, x2, x3])) ∧ Below w.heap.size w w' := by
  have HE := Lib.hid (be32_or x0 x1 x2 x3 h0 h1 h2 h3)
  have e0 : x0 % 4294967296 = x0 := by omega
  have e1 : x1 % 4294967296 = x1 := by omega
  have e2 : x2 % 4294967296 = x2 := by omega
  have e3 : x3 % 4294967296 = x3 := by omega
  have m2 : (x2 * 256) % 4294967296 = x2 * 256 := by omega
  have m1 : (x1 * 65536) % 4294967296 = x1 * 65536 := by omega
  have m0 : (x0 * 16777216) % 4294967296 = x0 * 16777216 := by omega
  have n3 : (3 : Int) < (n : Int) := by omega
  have n2 : (2 : Int) < (n : Int) := by omega
  have n1 : (1 : Int) < (n : Int) := by omega
  have n0 : (0 : Int) < (n : Int) := by omega
  clear h0 h1 h2 h3 hn
  go_enter Tryz.func209, Tryz.ntmps209
  go_wp2
  go_region
  all_goals go_wp2
  all_goals go_ret
  all_goals exact ⟨by rw [HE.out]; rfl, (Below.refl _ _).drew⟩

theorem wrap_u64 (x : Int) : IntKind.u64.wrap x = x % 18446744073709551616 := by simp [IntKind.wrap, IntKind.signed, IntKind.bits]
theorem be64_or (x0 x1 x2 x3 x4 x5 x6 x7 : Int) (h0 : 0 ≤ x0 ∧ x0 < 256) (h1 : 0 ≤ x1 ∧ x1 < 256) (h2 : 0 ≤ x2 ∧ x2 < 256) (h3 : 0 ≤ x3 ∧ x3 < 256) (h4 : 0 ≤ x4 ∧ x4 < 256) (h5 : 0 ≤ x5 ∧ x5 < 256) (h6 : 0 ≤ x6 ∧ x6 < 256) (h7 : 0 ≤ x7 ∧ x7 < 256) :
    Go.bits .or .u64 (beN [x0, x1, x2, x3] * 4294967296) (beN [x4, x5, x6, x7]) = beN [x0, x1, x2, x3, x4, x5, x6, x7] := by
  have e1 : beN [x0, x1, x2, x3] = x0 * 16777216 + x1 * 65536 + x2 * 256 + x3 := by simp only [beN, List.foldl_cons, List.foldl_nil]; omega
  have e2 : beN [x4, x5, x6, x7] = x4 * 16777216 + x5 * 65536 + x6 * 256 + x7 := by simp only [beN, List.foldl_cons, List.foldl_nil]; omega
  rw [or_join64 (beN [x4, x5, x6, x7]) (beN [x0, x1, x2, x3] * 4294967296) 32 (by omega) (by omega) (by omega) (by omega) (by omega) (by omega), e1, e2]
  simp only [beN, List.foldl_cons, List.foldl_nil]
  omega

set_option maxRecDepth 100000 in
theorem beUint64_c (b o n c : Nat) (x0 x1 x2 x3 x4 x5 x6 x7 : Int) (w : World) (h0 : 0 ≤ x0 ∧ x0 < 256) (h1 : 0 ≤ x1 ∧ x1 < 256) (h2 : 0 ≤ x2 ∧ x2 < 256) (h3 : 0 ≤ x3 ∧ x3 < 256) (h4 : 0 ≤ x4 ∧ x4 < 256) (h5 : 0 ≤ x5 ∧ x5 < 256) (h6 : 0 ≤ x6 ∧ x6 < 256) (h7 : 0 ≤ x7 ∧ x7 < 256) (hn : 8 ≤ n) (hnc : n ≤ c) (hb : b < w.heap.size)
    (c0 : w.cell? ⟨b, o, none⟩ = some (.int .u8 x0)) (c1 : w.cell? ⟨b, o + 1, none⟩ = some (.int .u8 x1)) (c2 : w.cell? ⟨b, o + 2, none⟩ = some (.int .u8 x2)) (c3 : w.cell? ⟨b, o + 3, none⟩ = some (.int .u8 x3))
    (c4 : w.cell? ⟨b, o + 4, none⟩ = some (.int .u8 x4)) (c5 : w.cell? ⟨b, o + 5, none⟩ = some (.int .u8 x5)) (c6 : w.cell? ⟨b, o + 6, none⟩ = some (.int .u8 x6)) (c7 : w.cell? ⟨b, o + 7, none⟩ = some (.int .u8 x7)) :
    Calls Tryz.prog 208 #[.slice (some ⟨b, o, none⟩) n c] w fun e w' => e = .returned (.int .u64 (beN [x0, x1, x2, x3, x4, x5, x6, x7])) ∧ Below w.heap.size w w' := by
  have HE := Lib.hid (be64_or x0 x1 x2 x3 x4 x5 x6 x7 h0 h1 h2 h3 h4 h5 h6 h7)
  have e1 : beN [x0, x1, x2, x3] = x0 * 16777216 + x1 * 65536 + x2 * 256 + x3 := by simp only [beN, List.foldl_cons, List.foldl_nil]; omega
  have e2 : beN [x4, x5, x6, x7] = x4 * 16777216 + x5 * 65536 + x6 * 256 + x7 := by simp only [beN, List.foldl_cons, List.foldl_nil]; omega
  have HC1 : Hid (∀ w', Below w.heap.size w w' → Calls Tryz.prog 209 #[.slice (some ⟨b, o, none⟩) n c] w' fun e w'' => e = .returned (.int .u32 (beN [x0, x1, x2, x3])) ∧ Below w'.heap.size w' w'') := by
    intro w' hw
    have k := fun (j : Nat) => hw.cell (p := ⟨b, j, none⟩) hb
    exact beUint32_c b o n c x0 x1 x2 x3 w' h0 h1 h2 h3 (by omega) (by rw [k]; exact c0) (by rw [k]; exact c1) (by rw [k]; exact c2) (by rw [k]; exact c3)
  have HC2 : Hid (∀ w', Below w.heap.size w w' → Calls Tryz.prog 209 #[.slice (some ⟨b, o + 4, none⟩) (n - 4) (c - 4)] w' fun e w'' => e = .returned (.int .u32 (beN [x4, x5, x6, x7])) ∧ Below w'.heap.size w' w'') := by
    intro w' hw
    have k := fun (j : Nat) => hw.cell (p := ⟨b, j, none⟩) hb
    exact beUint32_c b (o + 4) (n - 4) (c - 4) x4 x5 x6 x7 w' h4 h5 h6 h7 (by omega) (by rw [k]; exact c4) (by rw [k]; exact c5) (by rw [k]; exact c6) (by rw [k]; exact c7)
  obtain ⟨p, hp⟩ : ∃ p, beN [x0, x1, x2, x3] = p := ⟨_, rfl⟩
  obtain ⟨q, hq⟩ : ∃ q, beN [x4, x5, x6, x7] = q := ⟨_, rfl⟩
  rw [hp] at HC1 HE e1
  rw [hq] at HC2 HE e2
  have w1 : IntKind.u64.wrap p = p := by rw [wrap_u64]; omega
  have w2 : IntKind.u64.wrap q = q := by rw [wrap_u64]; omega
  have w3 : IntKind.u64.wrap (p * 4294967296) = p * 4294967296 := by rw [wrap_u64]; omega
  have n7 : (7 : Int) < (n : Int) := by omega
  have n4 : (4 : Int) ≤ (n : Int) := by omega
  have n4' : 4 ≤ n := by omega
  have HB0 : Hid (Below w.heap.size w w) := Below.refl _ _
  clear hp hq e1 e2 h0 h1 h2 h3 h4 h5 h6 h7 hn c0 c1 c2 c3 c4 c5 c6
  go_enter Tryz.func208, Tryz.ntmps208
  go_wp2
  go_region_with (first
    | (go_at_call_of 209 (Value.slice (some ⟨b, o, none⟩) n c); refine (HC1.out _ (by first | exact HB0.out | exact HB0.out.drew)).mono ?_; rintro e w1 ⟨rfl, hb1⟩; replace HB0 : Hid (Below w.heap.size w w1) := by first | exact HB0.out.trans hb1 | exact HB0.out.trans (hb1.mono HB0.out.size) | exact HB0.out.drew.trans (hb1.mono (by simp))
       clear hb1)
    | (go_at_call 209; refine (HC2.out _ (by first | exact HB0.out | exact HB0.out.drew)).mono ?_; rintro e w1 ⟨rfl, hb1⟩; replace HB0 : Hid (Below w.heap.size w w1) := by first | exact HB0.out.trans hb1 | exact HB0.out.trans (hb1.mono HB0.out.size) | exact HB0.out.drew.trans (hb1.mono (by simp))
       clear hb1))
  all_goals go_wp2
  all_goals go_ret
  all_goals exact ⟨congrArg (fun z => Ending.returned (.int .u64 z)) HE.out, HB0.out⟩

set_option maxRecDepth 100000 in
theorem bigWord_c (b o n c : Nat) (x0 x1 x2 x3 x4 x5 x6 x7 : Int) (w : World) (h0 : 0 ≤ x0 ∧ x0 < 256) (h1 : 0 ≤ x1 ∧ x1 < 256) (h2 : 0 ≤ x2 ∧ x2 < 256) (h3 : 0 ≤ x3 ∧ x3 < 256) (h4 : 0 ≤ x4 ∧ x4 < 256) (h5 : 0 ≤ x5 ∧ x5 < 256) (h6 : 0 ≤ x6 ∧ x6 < 256) (h7 : 0 ≤ x7 ∧ x7 < 256) (hn : 8 ≤ n) (hnc : n ≤ c) (hb : b < w.heap.size)
    (c0 : w.cell? ⟨b, o, none⟩ = some (.int .u8 x0)) (c1 : w.cell? ⟨b, o + 1, none⟩ = some (.int .u8 x1)) (c2 : w.cell? ⟨b, o + 2, none⟩ = some (.int .u8 x2)) (c3 : w.cell? ⟨b, o + 3, none⟩ = some (.int .u8 x3))
    (c4 : w.cell? ⟨b, o + 4, none⟩ = some (.int .u8 x4)) (c5 : w.cell? ⟨b, o + 5, none⟩ = some (.int .u8 x5)) (c6 : w.cell? ⟨b, o + 6, none⟩ = some (.int .u8 x6)) (c7 : w.cell? ⟨b, o + 7, none⟩ = some (.int .u8 x7)) :
    Calls Tryz.prog 181 #[.slice (some ⟨b, o, none⟩) n c] w fun e w' => e = .returned (.int .u64 (beN [x0, x1, x2, x3, x4, x5, x6, x7])) ∧ Below w.heap.size w w' := by
  have HC := Lib.hid (beUint64_c b o n c x0 x1 x2 x3 x4 x5 x6 x7 w h0 h1 h2 h3 h4 h5 h6 h7 hn hnc hb c0 c1 c2 c3 c4 c5 c6 c7)
  clear h0 h1 h2 h3 h4 h5 h6 h7 hn c0 c1 c2 c3 c4 c5 c6 c7
  go_enter Tryz.func181, Tryz.ntmps181
  go_wp2_with (go_at_call 208; refine HC.out.mono ?_; rintro e w1 ⟨rfl, hb1⟩)
  go_ret
  exact ⟨rfl, hb1⟩

/-- Its place in a row of bits. -/
theorem bitLen_eq (n : Nat) : ∀ x : Nat, 2 ^ n ≤ x → x < 2 ^ (n + 1) → n < 64 → Lib.bitLen x = n + 1 := by
  induction n with
  | zero =>
    intro x h1 h2 _
    obtain rfl : x = 1 := by simp at h1 h2; omega
    decide +kernel
  | succ n ih =>
    intro x h1 h2 hn
    have hp : (2 : Nat) ^ (n + 1 + 1) ≤ 2 ^ 64 := Nat.pow_le_pow_right (by omega) (by omega)
    have e1 : (2 : Nat) ^ (n + 1) = 2 ^ n * 2 := Nat.pow_succ 2 n
    have e2 : (2 : Nat) ^ (n + 1 + 1) = 2 ^ (n + 1) * 2 := Nat.pow_succ 2 (n + 1)
    have hz := Nat.two_pow_pos n
    rw [Lib.bitLen_half x (by omega) (by omega), ih (x / 2) (by omega) (by omega) (by omega)]
    omega
theorem smear (x y n : Nat) (h1 : 2 ^ n ≤ x) (h2 : x < 2 ^ (n + 1)) (h3 : y ≤ x) : 2 ^ n ≤ x ||| y ∧ x ||| y < 2 ^ (n + 1) :=
  ⟨Nat.le_trans h1 (Nat.left_le_or), Nat.or_lt_two_pow h2 (by omega)⟩
theorem or_nat (a b : Int) (h0 : 0 ≤ a) (h1 : a < 18446744073709551616) (h2 : 0 ≤ b) (h3 : b < 18446744073709551616) : Go.bits .or .u64 a b = ((a.toNat ||| b.toNat : Nat) : Int) := u64_or a b h0 h1 h2 h3
/-- One smearing step. -/
theorem smear_step (a b : Int) (n : Nat) (h0 : 0 ≤ a) (h1 : a < 18446744073709551616) (hb : 0 ≤ b) (hba : b ≤ a) (h2 : 2 ^ n ≤ a.toNat) (h3 : a.toNat < 2 ^ (n + 1)) (hn : n < 64) :
    0 ≤ Go.bits .or .u64 a b ∧ Go.bits .or .u64 a b < 18446744073709551616 ∧ 2 ^ n ≤ (Go.bits .or .u64 a b).toNat ∧ (Go.bits .or .u64 a b).toNat < 2 ^ (n + 1) := by
  rw [or_nat a b h0 h1 hb (by omega)]
  obtain ⟨s1, s2⟩ := smear a.toNat b.toNat n h2 h3 (by omega)
  have : (2 : Nat) ^ (n + 1) ≤ 2 ^ 64 := Nat.pow_le_pow_right (by omega) (by omega)
  refine ⟨by omega, by omega, by simpa using s1, by simpa using s2⟩

set_option maxRecDepth 100000 in
theorem bitLen0_c (c : Nat) (A : Option Addr) (w : World) : Calls Tryz.prog 210 #[.slice A 0 c] w fun e w' => e = .returned (.int .i64 0) ∧ w' = w := by
  go_enter Tryz.func210, Tryz.ntmps210
  go_wp2
  go_ret
  exact ⟨rfl, rfl⟩

set_option maxRecDepth 100000 in
/-- The length in bits of a row of words whose highest is x, not 0. -/
theorem bitLen_c (b o n c : Nat) (x : Int) (w : World) (hn : 0 < n) (hm : n ≤ 4398046511104) (h0 : 0 < x) (h1 : x < 18446744073709551616) (hc : w.cell? ⟨b, o + (n - 1), none⟩ = some (.int .u64 x)) :
    Calls Tryz.prog 210 #[.slice (some ⟨b, o, none⟩) n c] w fun e w' => e = .returned (.int .i64 ((n - 1) * 64 + Lib.bitLen x.toNat)) ∧ w' = w := by
  obtain ⟨m, rfl⟩ : ∃ m, n = m + 1 := ⟨n - 1, by omega⟩
  obtain ⟨k, hk1, hk2⟩ : ∃ k, 2 ^ k ≤ x.toNat ∧ x.toNat < 2 ^ (k + 1) := ⟨x.toNat.log2, Nat.log2_self_le (by omega), Nat.lt_log2_self⟩
  have hk : k < 64 := by
    rcases Nat.lt_or_ge k 64 with h | h
    · exact h
    · have : (2 : Nat) ^ 64 ≤ 2 ^ k := Nat.pow_le_pow_right (by omega) h
      omega
  have hL := bitLen_eq k x.toNat hk1 hk2 hk
  obtain ⟨y1, e1⟩ : ∃ y, Go.bits .or .u64 x (x / 2) = y := ⟨_, rfl⟩
  have s1 := smear_step x (x / 2) k (by omega) h1 (by omega) (by omega) hk1 hk2 hk
  rw [e1] at s1
  obtain ⟨y2, e2⟩ : ∃ y, Go.bits .or .u64 y1 (y1 / 4) = y := ⟨_, rfl⟩
  have s2 := smear_step y1 (y1 / 4) k (by omega) s1.2.1 (by omega) (by omega) s1.2.2.1 s1.2.2.2 hk
  rw [e2] at s2
  obtain ⟨y3, e3⟩ : ∃ y, Go.bits .or .u64 y2 (y2 / 16) = y := ⟨_, rfl⟩
  have s3 := smear_step y2 (y2 / 16) k (by omega) s2.2.1 (by omega) (by omega) s2.2.2.1 s2.2.2.2 hk
  rw [e3] at s3
  obtain ⟨y4, e4⟩ : ∃ y, Go.bits .or .u64 y3 (y3 / 256) = y := ⟨_, rfl⟩
  have s4 := smear_step y3 (y3 / 256) k (by omega) s3.2.1 (by omega) (by omega) s3.2.2.1 s3.2.2.2 hk
  rw [e4] at s4
  obtain ⟨y5, e5⟩ : ∃ y, Go.bits .or .u64 y4 (y4 / 65536) = y := ⟨_, rfl⟩
  have s5 := smear_step y4 (y4 / 65536) k (by omega) s4.2.1 (by omega) (by omega) s4.2.2.1 s4.2.2.2 hk
  rw [e5] at s5
  obtain ⟨y6, e6⟩ : ∃ y, Go.bits .or .u64 y5 (y5 / 65536 / 65536) = y := ⟨_, rfl⟩
  have s6 := smear_step y5 (y5 / 65536 / 65536) k (by omega) s5.2.1 (by omega) (by omega) s5.2.2.1 s5.2.2.2 hk
  rw [e6] at s6
  have hL6 := bitLen_eq k y6.toNat s6.2.2.1 s6.2.2.2 hk
  have HL := Lib.hid (And.intro hL hL6)
  have HC := Lib.hid (fun w => bitsLen y6 w s6.1 (by omega))
  clear s1 s2 s3 s4 s5 s6 hL hL6 hk1 hk2 h0 h1
  replace hc : w.cell? ⟨b, o + m, none⟩ = some (.int .u64 x) := hc
  go_enter Tryz.func210, Tryz.ntmps210
  go_wp2_with (go_at_call 228; refine (HC.out _).mono ?_; rintro e w1 ⟨rfl, rfl⟩)
  go_ret
  refine ⟨congrArg (fun z => Ending.returned (.int .i64 z)) (show wrap64 ((m : Int) * 64 + (Lib.bitLen y6.toNat : Nat)) = _ from ?_), rfl⟩
  have h1 := HL.out
  rw [h1.1, h1.2]
  unfold wrap64
  omega

set_option maxRecDepth 100000 in
theorem low64_c (b o n c : Nat) (x : Int) (w : World) (hn : 0 < n) (hc : w.cell? ⟨b, o, none⟩ = some (.int .u64 x)) (h0 : 0 ≤ x) (h1 : x < 18446744073709551616) :
    Calls Tryz.prog 183 #[.slice (some ⟨b, o, none⟩) n c] w fun e w' => e = .returned (.int .u64 x) ∧ w' = w := by
  have n0 : (0 : Int) < (n : Int) := by omega
  have nb : ((n : Int) == 0) = false := by simp; omega
  go_enter Tryz.func183, Tryz.ntmps183
  go_wp2
  go_ret
  exact ⟨rfl, rfl⟩
set_option maxRecDepth 100000 in
theorem low64_nil (c : Nat) (A : Option Addr) (w : World) : Calls Tryz.prog 183 #[.slice A 0 c] w fun e w' => e = .returned (.int .u64 0) ∧ w' = w := by
  go_enter Tryz.func183, Tryz.ntmps183
  go_wp2
  go_ret
  exact ⟨rfl, rfl⟩
end Go.Proofs.YtkplnbjgkhmbcaaGreatDoor

namespace Go.Proofs.YtkplnbjgkhmbcaaGreatDoor
open Go.RowKit
set_option linter.unusedVariables false
set_option linter.unusedSimpArgs false

set_option maxRecDepth 100000 in
theorem norm_nil (w : World) : Calls Tryz.prog 166 #[.slice none 0 0] w fun e w' => e = .returned (.slice none 0 0) ∧ w' = w := by
  go_enter Tryz.func166, Tryz.ntmps166
  go_wp2
  refine wp_loop_rounds 1 ?_
  rw [rounds_succ]
  go_wp2
  go_ret
  exact ⟨rfl, rfl⟩

/-- norm of a row that the call owns: the words without the zeros on top. -/
theorem norm_own (b n c : Nat) (zs : List Int) (w : World) (hn : zs.length = n) (hc : n ≤ c) (hm : c ≤ 140737488355328) (h : IRow .u64 w b zs) (hb : b < w.heap.size) (hw : Words zs) :
    Calls Tryz.prog 166 #[.slice (some ⟨b, 0, none⟩) n c] w fun e w' => w' = w ∧ ∃ i ys, e = .returned (.slice (some ⟨b, 0, none⟩) i c) ∧ Sl .u64 b w (.slice (some ⟨b, 0, none⟩) i c) ys ∧ Words ys ∧ Top ys ∧ leN ys = leN zs ∧ i = ys.length ∧ i ≤ n := by
  subst hn
  refine (norm_row b 0 c zs w hc hm (fun j hj => by rw [Nat.zero_add]; exact h.1 j hj)).mono ?_
  rintro e w' ⟨rfl, i, hi, hz, ht, rfl⟩
  have hlen : (zs.take i).length = i := by rw [List.length_take]; omega
  refine ⟨rfl, i, zs.take i, rfl, ⟨_, c, by rw [hlen], by omega, by omega, fun _ => ⟨b, 0, rfl, Nat.le_refl _, hb, fun j hj => ?_⟩⟩, fun x hx => hw x (List.mem_of_mem_take hx), fun hne => ?_, leN_take zs i hz, hlen.symm, hi⟩
  · rw [Nat.zero_add, List.getElem_take]
    exact h.1 j (by omega)
  · rw [List.getLast_eq_getElem, List.getElem_take]
    have hi0 : 0 < i := by
      rcases Nat.eq_zero_or_pos i with h0 | h0
      · subst h0; simp at hne
      · exact h0
    have := ht hi0 (by omega)
    simpa [hlen] using this

set_option maxRecDepth 100000 in
theorem setBytes_nil (A : Option Addr) (c : Nat) (w : World) : Calls Tryz.prog 151 #[.slice none 0 0, .slice A 0 c] w fun e w' => e = .returned (.slice none 0 0) ∧ w' = w := by
  go_enter Tryz.func151, Tryz.ntmps151
  go_wp2_with (go_at_call 161; refine (make_nil0 _).mono ?_; rintro e w1 ⟨rfl, rfl⟩)
  refine wp_loop_rounds 1 ?_
  rw [rounds_succ]
  go_wp2_with (go_at_call 166; refine (norm_nil _).mono ?_; rintro e w1 ⟨rfl, rfl⟩)
  go_ret
  exact ⟨rfl, rfl⟩

/-- Where the first loop of setBytes stands: k words are laid, i bytes are left. -/
theorem sb_step (l zs : List Int) (k i : Nat) (hl : Bytes l) (h : i + 8 + 8 * k = l.length) (hk : k < zs.length) (hz : ∀ j (hj : j < zs.length), k ≤ j → zs[j] = 0)
    (he : beN l = beN (l.take (i + 8)) * 18446744073709551616 ^ k + leN zs) :
    beN l = beN (l.take i) * 18446744073709551616 ^ (k + 1) + leN (zs.set k (beN ((l.drop i).take 8))) ∧ (∀ j (hj : j < (zs.set k (beN ((l.drop i).take 8))).length), k + 1 ≤ j → (zs.set k (beN ((l.drop i).take 8)))[j] = 0) := by
  refine ⟨?_, fun j hj hle => ?_⟩
  · rw [leN_set zs k hk, hz k hk (Nat.le_refl _), he, be_step l (i + 8) (by omega) (by omega), Int.pow_succ, show i + 8 - 8 = i from by omega, Int.add_mul, Int.sub_zero]
    rw [Int.mul_comm (beN ((l.drop i).take 8)), Int.mul_comm (18446744073709551616 ^ k) 18446744073709551616, ← Int.mul_assoc]
    omega
  · rw [List.getElem_set_ne (by omega)]
    exact hz j (by simpa using hj) (by omega)
/-- Eight bytes in a row, one by one. -/
theorem eight (l : List Int) (i : Nat) (h : i + 8 ≤ l.length) : (l.drop i).take 8 = [l[i], l[i + 1], l[i + 2], l[i + 3], l[i + 4], l[i + 5], l[i + 6], l[i + 7]] := by
  rw [List.drop_eq_getElem_cons (show i < l.length by omega), List.drop_eq_getElem_cons (show i + 1 < l.length by omega), List.drop_eq_getElem_cons (show i + 1 + 1 < l.length by omega), List.drop_eq_getElem_cons (show i + 1 + 1 + 1 < l.length by omega), List.drop_eq_getElem_cons (show i + 1 + 1 + 1 + 1 < l.length by omega), List.drop_eq_getElem_cons (show i + 1 + 1 + 1 + 1 + 1 < l.length by omega), List.drop_eq_getElem_cons (show i + 1 + 1 + 1 + 1 + 1 + 1 < l.length by omega), List.drop_eq_getElem_cons (show i + 1 + 1 + 1 + 1 + 1 + 1 + 1 < l.length by omega)]
  simp only [List.take_succ_cons, List.take_zero]

theorem take8_bd (l : List Int) (i : Nat) (hl : Bytes l) (h : i + 8 ≤ l.length) : 0 ≤ beN ((l.drop i).take 8) ∧ beN ((l.drop i).take 8) < 18446744073709551616 := by
  have := beN_bd ((l.drop i).take 8) (fun x hx => hl x (List.mem_of_mem_drop (List.mem_of_mem_take hx)))
  rw [List.length_take, List.length_drop, show min 8 (l.length - i) = 8 from by omega, pow256_8] at this
  exact this
theorem word_at (b o c : Nat) (l : List Int) (w w' : World) (hl : Bytes l) (hc : l.length ≤ c) (hb : b < w.heap.size) (hcell : ∀ j (h : j < l.length), w.cell? ⟨b, o + j, none⟩ = some (.int .u8 l[j])) (hbw : Below w.heap.size w w') (i : Nat) (h : i + 8 ≤ l.length) :
    Calls Tryz.prog 181 #[.slice (some ⟨b, o + i, none⟩) 8 (c - i)] w' fun e w'' => e = .returned (.int .u64 (beN ((l.drop i).take 8))) ∧ Below w'.heap.size w' w'' := by
  have k : ∀ j (h : j < l.length), w'.cell? ⟨b, o + j, none⟩ = some (.int .u8 l[j]) := fun j hj => by rw [hbw.cell (p := ⟨b, o + j, none⟩) hb]; exact hcell j hj
  have m : ∀ j (h : j < l.length), 0 ≤ l[j] ∧ l[j] < 256 := fun j hj => hl _ (List.getElem_mem hj)
  rw [eight l i h]
  exact bigWord_c b (o + i) 8 (c - i) _ _ _ _ _ _ _ _ w' (m _ _) (m _ _) (m _ _) (m _ _) (m _ _) (m _ _) (m _ _) (m _ _) (Nat.le_refl _) (by omega) (Nat.lt_of_lt_of_le hb hbw.size)
    (k i (by omega)) (by rw [Nat.add_assoc]; exact k (i + 1) (by omega)) (by rw [Nat.add_assoc]; exact k (i + 2) (by omega)) (by rw [Nat.add_assoc]; exact k (i + 3) (by omega)) (by rw [Nat.add_assoc]; exact k (i + 4) (by omega)) (by rw [Nat.add_assoc]; exact k (i + 5) (by omega)) (by rw [Nat.add_assoc]; exact k (i + 6) (by omega)) (by rw [Nat.add_assoc]; exact k (i + 7) (by omega))

/-- What the words hold when k of them are laid and i bytes are left. -/
structure Laid (l zs : List Int) (n k i : Nat) : Prop where
  sum : i + 8 * k = l.length
  len : zs.length = n
  words : Words zs
  rest : ∀ j (hj : j < zs.length), k ≤ j → zs[j] = 0
  num : beN l = beN (l.take i) * 18446744073709551616 ^ k + leN zs
theorem laid0 (l : List Int) (n : Nat) : Laid l (List.replicate n 0) n 0 l.length :=
  ⟨by omega, by simp, words_zeros n, fun j hj _ => by simp, by rw [List.take_length, leN_zeros]; simp⟩
theorem laid_step {l zs : List Int} {n k i : Nat} (h : Laid l zs n k (i + 8)) (hl : Bytes l) (hn : n = (l.length + 7) / 8) : Laid l (zs.set k (beN ((l.drop i).take 8))) n (k + 1) i := by
  have hs := h.sum
  have hk : k < zs.length := by rw [h.len]; omega
  obtain ⟨h1, h2⟩ := sb_step l zs k i hl h.sum hk h.rest h.num
  obtain ⟨d0, d1⟩ := take8_bd l i hl (by omega)
  exact ⟨by omega, by rw [List.length_set]; exact h.len, words_set zs k _ h.words d0 d1, h2, h1⟩

theorem or_join64' (a b : Int) (n : Nat) (ha : 0 ≤ a) (h2 : a < 2 ^ n) (hb : 0 ≤ b) (hz : b % 2 ^ n = 0) (h4 : b < 18446744073709551616) (hn : n ≤ 64) : Go.bits .or .u64 a b = a + b := by
  have hp : (2 : Int) ^ n ≤ 18446744073709551616 := by
    have : 2 ^ n ≤ 2 ^ 64 := Nat.pow_le_pow_right (by omega) hn
    have h := Int.ofNat_le.2 this
    simpa using h
  obtain ⟨x, rfl⟩ := Int.eq_ofNat_of_zero_le ha
  obtain ⟨y, rfl⟩ := Int.eq_ofNat_of_zero_le hb
  rw [u64_or_nat x y (by omega) (by omega), Nat.or_comm, nat_join n y x (by exact_mod_cast hz) (by exact_mod_cast h2)]
  push_cast
  omega
theorem pow8 (t : Nat) : (2 : Int) ^ (8 * t) = 256 ^ t := by
  rw [Int.pow_mul]; rfl
theorem drop_bd (l : List Int) (i j : Nat) (hl : Bytes l) : 0 ≤ beN ((l.take i).drop j) ∧ beN ((l.take i).drop j) < 256 ^ ((l.take i).drop j).length :=
  beN_bd _ (fun x hx => hl x (List.mem_of_mem_take (List.mem_of_mem_drop hx)))
theorem sb_or (l : List Int) (i j t : Nat) (hl : Bytes l) (hjt : j + 1 + t = i) (h8 : i < 8) (hi : i ≤ l.length) (hj : j < l.length) :
    Go.bits .or .u64 (beN ((l.take i).drop (j + 1))) (IntKind.u64.wrap (l[j] * 2 ^ (8 * t))) = beN ((l.take i).drop j) := by
  have e : (l.take i).drop j = l[j] :: (l.take i).drop (j + 1) := by
    rw [List.drop_eq_getElem_cons (show j < (l.take i).length by rw [List.length_take]; omega), List.getElem_take]
  have hlen : ((l.take i).drop (j + 1)).length = t := by rw [List.length_drop, List.length_take]; omega
  have hlen2 : ((l.take i).drop j).length = t + 1 := by rw [List.length_drop, List.length_take]; omega
  obtain ⟨d0, d1⟩ := drop_bd l i (j + 1) hl
  obtain ⟨f0, f1⟩ := drop_bd l i j hl
  rw [hlen] at d1
  rw [hlen2] at f1
  have h56 := pow_le_pow (t + 1) 7 (by omega)
  rw [show (256 : Int) ^ 7 = 72057594037927936 from by decide] at h56
  rw [e, beN_cons, hlen] at f0 f1
  rw [e, beN_cons, hlen, pow8]
  have hx := hl _ (List.getElem_mem hj)
  have hp := pow_pos t
  have hxp : 0 ≤ l[j] * 256 ^ t := Int.mul_nonneg hx.1 (by omega)
  have hw : IntKind.u64.wrap (l[j] * 256 ^ t) = l[j] * 256 ^ t := by rw [wrap_u64]; omega
  rw [hw, or_join64' _ _ (8 * t) d0 (by rw [pow8]; exact d1) hxp (by rw [pow8]; exact Int.mul_emod_left _ _) (by omega) (by omega)]
  omega

set_option maxRecDepth 100000 in
set_option maxHeartbeats 1000000 in
theorem setBytes_row (b o c : Nat) (l : List Int) (w : World) (hne : l ≠ []) (hl : Bytes l) (hlen : l.length ≤ 2147483647) (hc : l.length ≤ c) (hb : b < w.heap.size) (hcell : ∀ j (h : j < l.length), w.cell? ⟨b, o + j, none⟩ = some (.int .u8 l[j])) :
    Calls Tryz.prog 151 #[.slice none 0 0, .slice (some ⟨b, o, none⟩) l.length c] w fun e w' => ∃ v zs, e = .returned v ∧ Sl .u64 w.heap.size w' v zs ∧ Words zs ∧ Top zs ∧ leN zs = beN l ∧ Below w.heap.size w w' := by
  obtain ⟨n, hn⟩ : ∃ n, n = (l.length + 7) / 8 := ⟨_, rfl⟩
  have hpos : 0 < l.length := List.length_pos_iff.2 hne
  have hn0 : 0 < n := by omega
  have hn1 : n ≤ 4398046511104 := by omega
  have hnq : Int.tdiv ((l.length : Int) + 8 - 1) 8 = (n : Int) := by rw [Int.tdiv_eq_ediv_of_nonneg (by omega)]; omega
  have HW := Lib.hid (fun w' => word_at b o c l w w' hl hc hb hcell)
  have HC := Lib.hid hcell
  clear hcell
  have HN := Lib.hid hn
  have HL := Lib.hid hl
  clear hl hn
  go_enter Tryz.func151, Tryz.ntmps151
  go_wp2_with (go_at_call 161; refine (make_nil n _ hn0 hn1).mono ?_; rintro e w1 ⟨c1, rfl, hc1, hc2, hr1, hb1, hsz1⟩; have HR1 := Lib.hid hr1; have HB1 := Lib.hid hb1; clear hr1 hb1)
  go_loopw [5, 6] (fun a d wr => ∃ i k zs, a = .int .i64 (i : Nat) ∧ d = .int .i64 (k : Nat) ∧ i ≤ l.length ∧ Hid (Laid l zs n k i) ∧ Hid (IRow .u64 wr w.heap.size zs) ∧ Hid (Below w.heap.size w wr)) (fun a _ _ => (intOf a).toNat)
  case atStart => exact ⟨l.length, 0, _, rfl, rfl, Nat.le_refl _, laid0 l n, HR1.out, HB1.out⟩
  case round =>
    obtain ⟨i, k, zs, rfl, rfl, hi, HD, HR, HB⟩ := hrel
    by_cases h8 : 8 ≤ i
    · obtain ⟨i, rfl⟩ : ∃ p, i = p + 8 := ⟨i - 8, by omega⟩
      have hk : k < n := by have := HD.out.sum; have := HN.out; omega
      have HD2 := Lib.hid (laid_step HD.out HL.out HN.out)
      have HCW := Lib.hid (HW.out _ HB.out i (by omega))
      have hlz : k < zs.length := by rw [HD.out.len]; exact hk
      have hlt : w.heap.size < wr.heap.size := lt_of_cell (HR.out.1 k hlz)
      obtain ⟨x, hx⟩ : ∃ x, beN ((l.drop i).take 8) = x := ⟨_, rfl⟩
      rw [hx] at HD2 HCW
      clear hx
      go_wp2_with (go_at_call 181; refine HCW.out.mono ?_; rintro e w2 ⟨rfl, hb2⟩; obtain ⟨q1, q2, q3, q4⟩ := irow_step (v := x) (HR.out.below hb2 hlt) hlz (HB.out.trans (hb2.mono HB.out.size)) (Nat.le_refl _); have Q3 := Lib.hid q3; have Q4 := Lib.hid q4; clear q3 q4 hb2)
      go_roundw
      case rel => exact ⟨i, k + 1, _, by go_num, by go_num, by omega, HD2, Q3, Q4⟩
      case measure => simp [intOf]; omega
    · have hi8 : i < 8 := by omega
      clear h8
      by_cases h0 : i = 0
      · subst h0
        have HE : Hid (Words zs ∧ leN zs = beN l) := by
          refine ⟨HD.out.words, ?_⟩
          have := HD.out.num
          simpa [beN] using this.symm
        have hzl := HD.out.len
        have hlt : w.heap.size < wr.heap.size := lt_of_cell (HR.out.1 0 (by omega))
        have HNR := Lib.hid (norm_own w.heap.size n c1 zs wr hzl (by omega) (by omega) HR.out hlt HE.out.1)
        go_wp2_with (go_at_call 166; refine HNR.out.mono ?_; rintro e w2 ⟨rfl, i, ys, rfl, y1, y2, y3, y4, y5, y6⟩)
        go_ret
        subst y5
        exact ⟨.slice (some ⟨w.heap.size, 0, none⟩) ys.length c1, ys, rfl, y1, y2, y3, y4.trans HE.out.2, HB.out⟩
      · have hi0 : 0 < i := by omega
        clear h0
        go_wp2
        go_loopw [5, 7, 8] (fun a d s wq => ∃ j t : Nat, j + t = i ∧ a = .int .i64 (j : Nat) ∧ d = .int .u64 (beN ((l.take i).drop j)) ∧ s = .int .u64 (8 * t : Nat) ∧ wq = wr) (fun a _ _ _ => (intOf a).toNat)
        case atStart => exact ⟨i, 0, by omega, rfl, by simp [beN], rfl, rfl⟩
        case round =>
          obtain ⟨j, t, hjt, rfl, rfl, rfl, rfl⟩ := hrel
          rcases j with _ | j
          · have hk : k < zs.length := by have := HD.out.sum; have := HN.out; rw [HD.out.len]; omega
            have hkn : n - 1 = k := by have := HD.out.sum; have := HN.out; omega
            have hkn2 : (n : Int) - 1 = k := by omega
            obtain ⟨d, hd⟩ : ∃ d, beN ((l.take i).drop 0) = d := ⟨_, rfl⟩
            have hdb := drop_bd l i 0 HL.out
            rw [hd] at hdb
            have h56 := pow_le_pow (((l.take i).drop 0)).length 7 (by simp; omega)
            rw [show (256 : Int) ^ 7 = 72057594037927936 from by decide] at h56
            have HE : Hid (Words (zs.set k d) ∧ leN (zs.set k d) = beN l) := by
              refine ⟨words_set zs k d HD.out.words hdb.1 (by omega), ?_⟩
              rw [leN_set zs k hk, HD.out.rest k hk (Nat.le_refl _), HD.out.num, ← hd, List.drop_zero, Int.sub_zero, Int.mul_comm]
              omega
            have hzl := HD.out.len
            have hlt : w.heap.size < wr.heap.size := lt_of_cell (HR.out.1 k hk)
            obtain ⟨q1, q2, q3, q4⟩ := irow_step (v := d) HR.out hk HB.out (Nat.le_refl _)
            have HNR := Lib.hid (norm_own w.heap.size n c1 (zs.set k d) (wr.setCell ⟨w.heap.size, k, none⟩ (.int .u64 d)) (by simpa using hzl) (by omega) (by omega) q3 (by simpa [World.setCell] using hlt) HE.out.1)
            have Q4 := Lib.hid q4
            clear q3 q4 hdb h56
            rw [hd]
            go_wp2_with (go_at_call 166; refine HNR.out.mono ?_; rintro e w2 ⟨rfl, i, ys, rfl, y1, y2, y3, y4, y5, y6⟩)
            go_ret
            subst y5
            exact ⟨.slice (some ⟨w.heap.size, 0, none⟩) ys.length c1, ys, rfl, y1, y2, y3, y4.trans HE.out.2, Q4.out⟩
          · have hj : j < l.length := by omega
            have hcj := HC.out j hj
            rw [← HB.out.cell (p := ⟨b, o + j, none⟩) hb] at hcj
            have hx01 := HL.out _ (List.getElem_mem hj)
            obtain ⟨x, hx⟩ : ∃ x, l[j] = x := ⟨_, rfl⟩
            rw [hx] at hcj hx01
            have hor := sb_or l i j t HL.out (by omega) hi8 hi hj
            rw [hx] at hor
            generalize beN ((l.take i).drop (j + 1)) = d at hor ⊢
            go_wp2
            exact ⟨⟨j, t + 1, by omega, rfl, rfl, by go_num, trivial⟩, by simp [intOf]⟩
/-- setBytes of any row of bytes, onto nil. -/
theorem setBytes_c (B : Nat) (v : Value) (l : List Int) (w : World) (h : Sl .u8 B w v l) (hl : Bytes l) (hlen : l.length ≤ 2147483647) :
    Calls Tryz.prog 151 #[.slice none 0 0, v] w fun e w' => ∃ v zs, e = .returned v ∧ Sl .u64 w.heap.size w' v zs ∧ Words zs ∧ Top zs ∧ leN zs = beN l ∧ Below w.heap.size w w' := by
  obtain ⟨A, c, rfl, h1, h2, h3⟩ := h
  by_cases hne : l = []
  · subst hne
    refine (setBytes_nil A c w).mono ?_
    rintro e w' ⟨rfl, rfl⟩
    exact ⟨_, [], rfl, Sl.nil, fun x hx => (by cases hx), fun h => absurd rfl h, rfl, Below.refl _ _⟩
  · obtain ⟨b, o, rfl, hB, hlt, hc⟩ := h3 hne
    exact setBytes_row b o c l w hne hl hlen h1 hlt hc
end Go.Proofs.YtkplnbjgkhmbcaaGreatDoor
