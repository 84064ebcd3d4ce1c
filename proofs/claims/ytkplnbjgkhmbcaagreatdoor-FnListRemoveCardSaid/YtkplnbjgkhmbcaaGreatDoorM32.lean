/- impl: floatOf, bitsOf, scalar. · The bytes of a number, the highest one first: plain laws for nat.bytes. · Scalars as Vals: those that spec.Clean makes; sameness, equality, removal in plain words. · impl: one; starlark.NewList; List.Index. · starlark.NewList; List.Index; (Int).BigInt. -/
import Derived.Test.YtkplnbjgkhmbcaaGreatDoorM30
import Derived.Test.YtkplnbjgkhmbcaaGreatDoorM07
import Derived.Test.YtkplnbjgkhmbcaaGreatDoorM01
import Derived.Test.YtkplnbjgkhmbcaaGreatDoorM31
namespace Go.Proofs.YtkplnbjgkhmbcaaGreatDoor
open Go.RowKit Go.Shelf Go.Proofs.YtkplnbjgkhmbcaaGreatDoorW.PrintWords Go.Proofs.YtkplnbjgkhmbcaaGreatDoorW.PrintLast Go.Proofs.YtkplnbjgkhmbcaaGreatDoorW.PrintMore Go.Proofs.YtkplnbjgkhmbcaaGreatDoor.PFnCompare Go.Proofs.YtkplnbjgkhmbcaaGreatDoor.PCmp Go.Proofs.YtkplnbjgkhmbcaaGreatDoor.PbytesOf Go.Proofs.YtkplnbjgkhmbcaaGreatDoor.Pcmp
set_option linter.unusedVariables false
set_option linter.unusedSimpArgs false

theorem floatOf_c (n : Int) (w : World) : Calls Tryz.prog 92 #[.int .u64 n] w fun e w' => e = .returned (.float .f64 n.toNat) ∧ w' = w := by
  have k := call_float
  go_enter Tryz.func92, Tryz.ntmps92
  go_wp2
  go_ret
  exact ⟨rfl, rfl⟩
theorem bitsOf_c (b : Nat) (w : World) : Calls Tryz.prog 70 #[.float .f64 b] w fun e w' => e = .returned (.int .u64 b) ∧ w' = w := by
  have k := call_bits
  go_enter Tryz.func70, Tryz.ntmps70
  go_wp2
  go_ret
  exact ⟨rfl, rfl⟩

/-- The scalar that a Val tells. -/
def scaOf (x : VT) : Option Sca :=
  if x.f0 = 0 then some .none
  else if x.f0 = 1 then (if x.f3 ≤ 1 then some (.bool (x.f3 == 1)) else none)
  else if x.f0 = 2 then some (.int (val x.f1 x.f2))
  else if x.f0 = 3 then some (.float x.f3.toNat)
  else if x.f0 = 4 then some (.str x.f4)
  else if x.f0 = 5 then some (.bytes x.f4)
  else none
/-- What impl.scalar answers. -/
def ScaR (B : Nat) (o : Option Sca) (e : Ending) (w' : World) : Prop :=
  match o with
  | some s => ∃ v, e = .returned (.tuple #[v, .bool true]) ∧ ScaV B w' v s
  | none => ∃ v, e = .returned (.tuple #[v, .bool false])

set_option maxRecDepth 100000 in
theorem scalar_c (x : VT) (v : Value) (w : World) (h : VR w v x) (hl : Leaf x) :
    Calls Tryz.prog 54 #[.int .i64 x.f0, v] w fun e w' => ScaR w.heap.size (scaOf x) e w' ∧ Below w.heap.size w w' := by
  obtain ⟨A2, c2, A5, c5, rfl, g2, g2c, g5, _⟩ := h.open
  have hsl := c_sl g2c g2
  have hk := hl.kind
  have hb := hl.bits
  have hm := hl.mag
  clear h g2c hl
  have HB0 : Hid (Below w.heap.size w (w.alloc (.cells #[.int .i64 x.f0, .bool x.f1, .slice A2 x.f2.length c2, .int .u64 x.f3, .string x.f4, .slice A5 x.f5.length c5] 26))) := Lib.hid ((Below.refl _ w).alloc (Nat.le_refl _) _)
  by_cases k0 : x.f0 = 0
  · have hs : scaOf x = some .none := by unfold scaOf; rw [if_pos k0]
    rw [hs, k0]
    rw [k0] at HB0
    go_enter Tryz.func54, Tryz.ntmps54
    go_wp2
    go_ret2
    exact ⟨⟨_, rfl, rfl⟩, HB0.out⟩
  by_cases k1 : x.f0 = 1
  · rw [k1]
    rw [k1] at HB0
    by_cases hf : x.f3 ≤ 1
    · have hs : scaOf x = some (.bool (x.f3 == 1)) := by unfold scaOf; rw [if_neg k0, if_pos k1, if_pos hf]
      rw [hs]
      have hd : decide (x.f3 ≤ 1) = true := by simp [hf]
      go_enter Tryz.func54, Tryz.ntmps54
      go_wp2
      go_region
      all_goals go_wp2
      all_goals go_ret2
      all_goals exact ⟨⟨_, rfl, rfl⟩, HB0.out.drew⟩
    · have hs : scaOf x = none := by unfold scaOf; rw [if_neg k0, if_pos k1, if_neg hf]
      rw [hs]
      have hd : decide (x.f3 ≤ 1) = false := by simp [hf]
      go_enter Tryz.func54, Tryz.ntmps54
      go_wp2
      go_region
      all_goals go_wp2
      all_goals go_ret2
      all_goals exact ⟨⟨_, rfl⟩, HB0.out.drew⟩
  by_cases k2 : x.f0 = 2
  · have hs : scaOf x = some (.int (val x.f1 x.f2)) := by unfold scaOf; rw [if_neg k0, if_neg k1, if_pos k2]
    rw [hs, k2]
    rw [k2] at HB0
    have HW := Lib.hid (fun W (hb : Below w.heap.size w W) => iwhole_c 0 2 x.f3 x.f1 x.f4 _ A5 x.f5.length c5 x.f2 W (hsl.below hb) hm.1 hm.2)
    clear hsl hm hb hk
    go_enter Tryz.func54, Tryz.ntmps54
    go_wp2_with (go_at_call 91; (with_reducible refine (HW.out _ HB0.out).mono ?_); rintro e w1 ⟨u, rfl, hu, hb1⟩; have HU := Lib.hid (And.intro hu hb1); clear hu hb1)
    go_ret2
    exact ⟨⟨_, rfl, _, rfl, HU.out.1.mono HB0.out.size⟩, HB0.out.trans (HU.out.2.mono HB0.out.size)⟩
  by_cases k3 : x.f0 = 3
  · have hs : scaOf x = some (.float x.f3.toNat) := by unfold scaOf; rw [if_neg k0, if_neg k1, if_neg k2, if_pos k3]
    rw [hs, k3]
    rw [k3] at HB0
    go_enter Tryz.func54, Tryz.ntmps54
    go_wp2_with (go_at_call 92; (with_reducible refine (floatOf_c _ _).mono ?_); rintro e w1 ⟨rfl, hw1⟩; have HWW := Lib.hid hw1; clear hw1)
    go_ret2
    exact ⟨⟨_, rfl, rfl⟩, by rw [HWW.out]; exact HB0.out⟩
  by_cases k4 : x.f0 = 4
  · have hs : scaOf x = some (.str x.f4) := by unfold scaOf; rw [if_neg k0, if_neg k1, if_neg k2, if_neg k3, if_pos k4]
    rw [hs, k4]
    rw [k4] at HB0
    go_enter Tryz.func54, Tryz.ntmps54
    go_wp2
    go_ret2
    exact ⟨⟨_, rfl, rfl⟩, HB0.out⟩
  by_cases k5 : x.f0 = 5
  · have hs : scaOf x = some (.bytes x.f4) := by unfold scaOf; rw [if_neg k0, if_neg k1, if_neg k2, if_neg k3, if_neg k4, if_pos k5]
    rw [hs, k5]
    rw [k5] at HB0
    go_enter Tryz.func54, Tryz.ntmps54
    go_wp2
    go_ret2
    exact ⟨⟨_, rfl, rfl⟩, HB0.out⟩
  · have hs : scaOf x = none := by unfold scaOf; rw [if_neg k0, if_neg k1, if_neg k2, if_neg k3, if_neg k4, if_neg k5]
    rw [hs]
    have q0 : (x.f0 == 0) = false := by simp [k0]
    have q1 : (x.f0 == 1) = false := by simp [k1]
    have q2 : (x.f0 == 2) = false := by simp [k2]
    have q3 : (x.f0 == 3) = false := by simp [k3]
    have q4 : (x.f0 == 4) = false := by simp [k4]
    have q5 : (x.f0 == 5) = false := by simp [k5]
    clear k0 k1 k2 k3 k4 k5
    go_enter Tryz.func54, Tryz.ntmps54
    go_wp2
    go_ret2
    exact ⟨⟨_, rfl⟩, HB0.out⟩
end Go.Proofs.YtkplnbjgkhmbcaaGreatDoor

namespace Go.Proofs.YtkplnbjgkhmbcaaGreatDoor
set_option linter.unusedVariables false
set_option linter.unusedSimpArgs false

/-- The n lowest bytes of x. -/
def beB : Nat → Int → List Int
  | 0, _ => []
  | n + 1, x => (x / 256 ^ n % 256) :: beB n x
theorem beB_length (x : Int) : ∀ n, (beB n x).length = n
  | 0 => rfl
  | n + 1 => by simp [beB, beB_length x n]
theorem beB_bytes (x : Int) : ∀ n, Bytes (beB n x)
  | 0 => fun y hy => by cases hy
  | n + 1 => fun y hy => by
    rw [beB, List.mem_cons] at hy
    rcases hy with rfl | hy
    · omega
    · exact beB_bytes x n y hy
theorem beB_num (x : Int) : ∀ n, beN (beB n x) = x % 256 ^ n
  | 0 => by simp [beB, beN, Int.emod_one]
  | n + 1 => by
    rw [beB, beN_cons, beB_length, beB_num x n]
    have hp := pow_pos n
    have h1 := Int.mul_ediv_add_emod x (256 ^ n)
    have h2 := Int.mul_ediv_add_emod (x / 256 ^ n) 256
    have h3 := Int.emod_nonneg x (Int.ne_of_gt hp)
    have h4 := Int.emod_lt_of_pos x hp
    have e : x = 256 ^ (n + 1) * (x / 256 ^ n / 256) + (x / 256 ^ n % 256 * 256 ^ n + x % 256 ^ n) := by
      rw [Int.pow_succ]
      have : x / 256 ^ n % 256 = x / 256 ^ n - 256 * (x / 256 ^ n / 256) := by omega
      rw [this, Int.sub_mul, Int.mul_assoc (256 ^ n) 256, Int.mul_comm (256 ^ n) (256 * _), Int.mul_comm (x / 256 ^ n) (256 ^ n)]
      omega
    have h5 : 0 ≤ x / 256 ^ n % 256 := by omega
    have h6 : x / 256 ^ n % 256 ≤ 255 := by omega
    have h7 : 0 ≤ x / 256 ^ n % 256 * 256 ^ n := Int.mul_nonneg h5 (Int.le_of_lt hp)
    have h8 : x / 256 ^ n % 256 * 256 ^ n ≤ 255 * 256 ^ n := Int.mul_le_mul_of_nonneg_right h6 (Int.le_of_lt hp)
    have h9 : (256 : Int) ^ (n + 1) = 256 * 256 ^ n := by rw [Int.pow_succ, Int.mul_comm]
    have h10 : (256 ^ (n + 1) * (x / 256 ^ n / 256) + (x / 256 ^ n % 256 * 256 ^ n + x % 256 ^ n)) % 256 ^ (n + 1) = x / 256 ^ n % 256 * 256 ^ n + x % 256 ^ n := by
      rw [Int.mul_add_emod_self_left, Int.emod_eq_of_lt] <;> omega
    rw [← e] at h10
    exact h10.symm
theorem beB_step (n i : Nat) (x : Int) (b : Int) (hb : b = x / 256 ^ n % 256) : (List.replicate (i + 1) 0 ++ beB n x).set i b = List.replicate i 0 ++ beB (n + 1) x := by
  subst hb
  rw [List.replicate_succ']
  simp [beB, List.set_append]
theorem beB_full (n : Nat) (x : Int) (h : 0 ≤ x) (hx : x < 256 ^ n) : beN (beB n x) = x := by rw [beB_num, Int.emod_eq_of_lt h hx]
/-- A byte of a word is a byte of the whole number. -/
theorem word_byte (zs : List Int) (hw : Words zs) (k j : Nat) (hk : k < zs.length) (hj : j < 8) : zs[k] / 256 ^ j % 256 = leN zs / 256 ^ (8 * k + j) % 256 := by
  have e : zs = zs.take k ++ (zs[k] :: zs.drop (k + 1)) := by rw [← List.drop_eq_getElem_cons hk, List.take_append_drop]
  have hl : (zs.take k).length = k := by rw [List.length_take]; omega
  have hn : leN zs = leN (zs.take k) + 18446744073709551616 ^ k * (zs[k] + 18446744073709551616 * leN (zs.drop (k + 1))) := by
    conv => lhs; rw [e]
    rw [leN_append, hl, leN_cons]
  have hb := leN_bd (zs.take k) (fun x hx => hw x (List.mem_of_mem_take hx))
  rw [hl] at hb
  have hpow : (256 : Int) ^ (8 * k + j) = 18446744073709551616 ^ k * 256 ^ j := by
    rw [Int.pow_add, Int.pow_mul, pow256_8]
  have hdiv : leN zs / 18446744073709551616 ^ k = zs[k] + 18446744073709551616 * leN (zs.drop (k + 1)) := by
    rw [hn, Int.add_mul_ediv_left _ _ (Int.ne_of_gt (wpos k)), Int.ediv_eq_zero_of_lt hb.1 hb.2, Int.zero_add]
  rw [hpow, ← Int.ediv_ediv_of_nonneg (Int.le_of_lt (wpos k)), hdiv]
  have hs : (18446744073709551616 : Int) = 256 ^ j * (256 * 256 ^ (7 - j)) := by
    rw [← pow256_8, show 8 = j + (1 + (7 - j)) by omega, Int.pow_add, Int.pow_add, Int.pow_one]
  conv => rhs; rw [hs, Int.mul_assoc, Int.add_mul_ediv_left _ _ (Int.ne_of_gt (pow_pos j)), Int.mul_assoc, Int.add_mul_emod_self_left]
theorem cutL_at (l : List Int) (i : Nat) (hi : i ≤ l.length) (h0 : ∀ m (h : m < l.length), m < i → l[m] = 0) (h1 : ∀ h : i < l.length, l[i] ≠ 0) : cutL l = l.drop i := by
  induction i generalizing l with
  | zero =>
    cases l with
    | nil => rfl
    | cons a r =>
      have := h1 (by simp)
      simp at this
      simp [cutL, this]
  | succ i ih =>
    cases l with
    | nil => simp at hi
    | cons a r =>
      have ha := h0 0 (by simp) (by omega)
      simp at ha
      subst ha
      rw [show cutL (0 :: r) = cutL r by simp [cutL], List.drop_succ_cons]
      refine ih r (by simpa using hi) (fun m hm hlt => ?_) (fun hlt => ?_)
      · have := h0 (m + 1) (by simpa using hm) (by omega)
        simpa using this
      · have := h1 (by simpa using hlt)
        simpa using this
/-- Two forms of one number are one. -/
theorem good_len {n m : Bool} {a b : List Int} (ga : Good n a) (gb : Good m b) (h : beN a = beN b) : a.length = b.length := by
  rcases Nat.lt_trichotomy a.length b.length with h1 | h1 | h1
  · have := beN_longer a b ga.bytes gb.bytes gb.lead h1; omega
  · exact h1
  · have := beN_longer b a gb.bytes ga.bytes ga.lead h1; omega
theorem good_one {n m : Bool} {a b : List Int} (ga : Good n a) (gb : Good m b) (h : val n a = val m b) : n = m ∧ a.length = b.length := by
  have ha := beN_bd a ga.bytes
  have hb := beN_bd b gb.bytes
  have hnm : n = m := by
    cases n <;> cases m
    · rfl
    · have : b = [] := Classical.byContradiction fun hne => by have := gb.pos hne; simp [val] at h; omega
      exact (gb.zero this).symm
    · have : a = [] := Classical.byContradiction fun hne => by have := ga.pos hne; simp [val] at h; omega
      exact (ga.zero this)
    · rfl
  subst hnm
  refine ⟨rfl, good_len ga gb ?_⟩
  cases n <;> simp [val] at h <;> omega
end Go.Proofs.YtkplnbjgkhmbcaaGreatDoor

namespace Go.Proofs.YtkplnbjgkhmbcaaGreatDoor
open Go.RowKit Go.Shelf Go.Proofs.YtkplnbjgkhmbcaaGreatDoorW.PrintWords Go.Proofs.YtkplnbjgkhmbcaaGreatDoorW.PrintLast Go.Proofs.YtkplnbjgkhmbcaaGreatDoorW.PrintMore Go.Proofs.YtkplnbjgkhmbcaaGreatDoor.PFnCompare Go.Proofs.YtkplnbjgkhmbcaaGreatDoor.PCmp Go.Proofs.YtkplnbjgkhmbcaaGreatDoor.PbytesOf Go.Proofs.YtkplnbjgkhmbcaaGreatDoor.Pcmp
set_option linter.unusedVariables false
set_option linter.unusedSimpArgs false

/-- x is a Val of the scalar s, with nothing beside it. -/
structure Canon (s : Sca) (x : VT) : Prop where
  leaf : Leaf x
  kids : x.f5 = []
  sca : scaOf x = some s
  text : x.f0 ≠ 4 → x.f0 ≠ 5 → x.f4 = ⟨#[]⟩
theorem Canon.kind {s : Sca} {x : VT} (h : Canon s x) : x.f0 = (s.kind : Int) := by
  have := h.sca
  unfold scaOf at this
  repeat' split at this
  all_goals first | (cases this; simp_all [Sca.kind]) | cases this
theorem canon_none {x : VT} (h : Canon .none x) : x.f0 = 0 := h.kind
theorem canon_bool {b : Bool} {x : VT} (h : Canon (.bool b) x) : x.f0 = 1 ∧ x.f3 = if b then 1 else 0 := by
  have hk : x.f0 = 1 := h.kind
  refine ⟨hk, ?_⟩
  have := h.sca
  have hb := h.leaf.bits
  unfold scaOf at this
  rw [if_neg (by omega), if_pos hk] at this
  split at this
  · injection this with this
    injection this with this
    subst this
    by_cases h1 : x.f3 = 1
    · simp [h1]
    · have : x.f3 = 0 := by omega
      simp [this]
  · cases this
theorem canon_int {z : Int} {x : VT} (h : Canon (.int z) x) : x.f0 = 2 ∧ Good x.f1 x.f2 ∧ val x.f1 x.f2 = z := by
  have hk : x.f0 = 2 := h.kind
  refine ⟨hk, h.leaf.int hk, ?_⟩
  have := h.sca
  unfold scaOf at this
  rw [if_neg (by omega), if_neg (by omega), if_pos hk] at this
  injection this with this
  injection this
theorem canon_float {b : Nat} {x : VT} (h : Canon (.float b) x) : x.f0 = 3 ∧ x.f3 = b := by
  have hk : x.f0 = 3 := h.kind
  refine ⟨hk, ?_⟩
  have := h.sca
  have hb := h.leaf.bits
  unfold scaOf at this
  rw [if_neg (by omega), if_neg (by omega), if_neg (by omega), if_pos hk] at this
  injection this with this
  injection this with this
  omega
theorem canon_str {t : ByteArray} {x : VT} (h : Canon (.str t) x) : x.f0 = 4 ∧ x.f4 = t := by
  have hk : x.f0 = 4 := h.kind
  refine ⟨hk, ?_⟩
  have := h.sca
  unfold scaOf at this
  rw [if_neg (by omega), if_neg (by omega), if_neg (by omega), if_neg (by omega), if_pos hk] at this
  injection this with this
  injection this
theorem canon_bytes {t : ByteArray} {x : VT} (h : Canon (.bytes t) x) : x.f0 = 5 ∧ x.f4 = t := by
  have hk : x.f0 = 5 := h.kind
  refine ⟨hk, ?_⟩
  have := h.sca
  unfold scaOf at this
  rw [if_neg (by omega), if_neg (by omega), if_neg (by omega), if_neg (by omega), if_neg (by omega), if_pos hk] at this
  injection this with this
  injection this
/-- Two Vals of one scalar. -/
structure Alike (x y : VT) : Prop where
  kind : x.f0 = y.f0
  kx : x.f5 = []
  ky : y.f5 = []
  text : x.f4 = y.f4
  bits : x.f0 = 1 ∨ x.f0 = 3 → x.f3 = y.f3
  int : x.f0 = 2 → Good x.f1 x.f2 ∧ Good y.f1 y.f2 ∧ x.f1 = y.f1 ∧ x.f2.length = y.f2.length ∧ val x.f1 x.f2 = val y.f1 y.f2
theorem canon_alike {s : Sca} {x y : VT} (hx : Canon s x) (hy : Canon s y) : Alike x y := by
  refine ⟨hx.kind.trans hy.kind.symm, hx.kids, hy.kids, ?_, ?_, ?_⟩
  · cases s
    · have := hx.kind; have := hy.kind; rw [hx.text (by simp_all [Sca.kind]) (by simp_all [Sca.kind]), hy.text (by simp_all [Sca.kind]) (by simp_all [Sca.kind])]
    · have := hx.kind; have := hy.kind; rw [hx.text (by simp_all [Sca.kind]) (by simp_all [Sca.kind]), hy.text (by simp_all [Sca.kind]) (by simp_all [Sca.kind])]
    · have := hx.kind; have := hy.kind; rw [hx.text (by simp_all [Sca.kind]) (by simp_all [Sca.kind]), hy.text (by simp_all [Sca.kind]) (by simp_all [Sca.kind])]
    · have := hx.kind; have := hy.kind; rw [hx.text (by simp_all [Sca.kind]) (by simp_all [Sca.kind]), hy.text (by simp_all [Sca.kind]) (by simp_all [Sca.kind])]
    · rw [(canon_str hx).2, (canon_str hy).2]
    · rw [(canon_bytes hx).2, (canon_bytes hy).2]
  · have hk := hx.kind
    cases s <;> simp [Sca.kind] at hk <;> intro h <;> first | omega | skip
    · rw [(canon_bool hx).2, (canon_bool hy).2]
    · rw [(canon_float hx).2, (canon_float hy).2]
  · have hk := hx.kind
    cases s <;> simp [Sca.kind] at hk <;> intro h <;> first | omega | skip
    obtain ⟨_, g1, v1⟩ := canon_int hx
    obtain ⟨_, g2, v2⟩ := canon_int hy
    obtain ⟨a, b⟩ := good_one g1 g2 (v1.trans v2.symm)
    exact ⟨g1, g2, a, b, v1.trans v2.symm⟩
theorem canon_num {s : Sca} {x : VT} (hx : Canon s x) : isNum x = (s.kind == 2 || s.kind == 3) := by
  unfold isNum
  rw [hx.kind]
  cases s <;> rfl
/-- Equality of two numbers. -/
theorem canon_ncmp {s t : Sca} {x y : VT} (hx : Canon s x) (hy : Canon t y) (h1 : isNum x = true) (h2 : isNum y = true) : (ncmp x y == 0) = eqS s t := by
  rw [canon_num hx] at h1
  rw [canon_num hy] at h2
  cases s <;> simp [Sca.kind] at h1
  · cases t <;> simp [Sca.kind] at h2
    · obtain ⟨k1, g1, v1⟩ := canon_int hx
      obtain ⟨k2, g2, v2⟩ := canon_int hy
      unfold ncmp eqS
      rw [if_pos k1, if_pos k2, v1, v2]
    · obtain ⟨k1, g1, v1⟩ := canon_int hx
      obtain ⟨k2, v2⟩ := canon_float hy
      unfold ncmp eqS
      rw [if_pos k1, if_neg (by omega), v1, v2]; rfl
  · cases t <;> simp [Sca.kind] at h2
    · obtain ⟨k1, v1⟩ := canon_float hx
      obtain ⟨k2, g2, v2⟩ := canon_int hy
      unfold ncmp eqS
      rw [if_neg (by omega), if_pos k2, v1, v2]; rfl
    · obtain ⟨k1, v1⟩ := canon_float hx
      obtain ⟨k2, v2⟩ := canon_float hy
      unfold ncmp eqS
      rw [if_neg (by omega), if_neg (by omega), v1, v2]; rfl
theorem eqS_other {s t : Sca} (hk : s.kind ≠ t.kind) (hn : ¬ ((s.kind = 2 ∨ s.kind = 3) ∧ (t.kind = 2 ∨ t.kind = 3))) : eqS s t = false := by
  cases s <;> cases t <;> first | rfl | exact absurd rfl hk | (exact absurd ⟨by simp [Sca.kind], by simp [Sca.kind]⟩ hn)
/-- The first that is equal. -/
def firstS (ss : List Sca) (t : Sca) : Option Nat := ss.findIdx? (fun s => eqS s t)
end Go.Proofs.YtkplnbjgkhmbcaaGreatDoor

namespace Go.Proofs.YtkplnbjgkhmbcaaGreatDoor
open Go.RowKit Go.Shelf Go.Proofs.YtkplnbjgkhmbcaaGreatDoorW.PrintWords Go.Proofs.YtkplnbjgkhmbcaaGreatDoorW.PrintLast Go.Proofs.YtkplnbjgkhmbcaaGreatDoorW.PrintMore Go.Proofs.YtkplnbjgkhmbcaaGreatDoor.PFnCompare Go.Proofs.YtkplnbjgkhmbcaaGreatDoor.PCmp Go.Proofs.YtkplnbjgkhmbcaaGreatDoor.PbytesOf Go.Proofs.YtkplnbjgkhmbcaaGreatDoor.Pcmp
set_option linter.unusedVariables false
set_option linter.unusedSimpArgs false

theorem ScaV.mono {B B' : Nat} {w : World} {v : Value} {s : Sca} (h : ScaV B w v s) (hB : B' ≤ B) : ScaV B' w v s := by
  cases s <;> first | exact h | (obtain ⟨u, rfl, h⟩ := h; exact ⟨u, rfl, h.mono hB⟩)
theorem ScaR.pair {B : Nat} {o : Option Sca} {e : Ending} {w' : World} (h : ScaR B o e w') : ∃ v, e = .returned (.tuple #[v, .bool o.isSome]) ∧ (∀ s, o = some s → ScaV B w' v s) := by
  unfold ScaR at h
  cases o with
  | none => obtain ⟨v, h⟩ := h; exact ⟨v, h, fun s e => by cases e⟩
  | some s => obtain ⟨v, h, h2⟩ := h; exact ⟨v, h, fun s e => by cases e; exact h2⟩

set_option maxRecDepth 100000 in
theorem one_c (x : VT) (v : Value) (w : World) (h : VR w v x) (hl : Leaf x) :
    Calls Tryz.prog 47 #[v] w fun e w' => ∃ u, e = .returned (.tuple #[u, .bool (scaOf x).isSome]) ∧ (∀ s, scaOf x = some s → ScaV w.heap.size w' u s) ∧ Below w.heap.size w w' := by
  obtain ⟨A2, c2, A5, c5, rfl, _⟩ := h.open
  have HB0 : Hid (Below w.heap.size w (w.alloc (.cells #[.int .i64 x.f0, .bool x.f1, .slice A2 x.f2.length c2, .int .u64 x.f3, .string x.f4, .slice A5 x.f5.length c5] 26))) := Lib.hid ((Below.refl _ w).alloc (Nat.le_refl _) _)
  have HS := Lib.hid (fun W (hB : Below w.heap.size w W) => scalar_c x _ W (h.below hB) hl)
  clear h hl
  go_enter Tryz.func47, Tryz.ntmps47
  go_wp2_with (go_at_call 54; (with_reducible refine (HS.out _ HB0.out).mono ?_); rintro e w1 ⟨hr, hb1⟩; obtain ⟨u, rfl, hs⟩ := hr.pair; have HP := Lib.hid (And.intro hs hb1); clear hr hs hb1)
  go_ret2
  exact ⟨_, rfl, fun s e => by have := HP.out.1 s e; exact ScaV.mono this HB0.out.size, HB0.out.trans (HP.out.2.mono HB0.out.size)⟩
end Go.Proofs.YtkplnbjgkhmbcaaGreatDoor

namespace Go.Proofs.YtkplnbjgkhmbcaaGreatDoor
open Go.RowKit Go.Shelf Go.Proofs.YtkplnbjgkhmbcaaGreatDoorW.PrintWords Go.Proofs.YtkplnbjgkhmbcaaGreatDoorW.PrintLast Go.Proofs.YtkplnbjgkhmbcaaGreatDoorW.PrintMore
set_option linter.unusedVariables false
set_option linter.unusedSimpArgs false

theorem newList_c (A : Option Addr) (n c : Nat) (w : World) : Calls Tryz.prog 56 #[.slice A n c] w fun e w' => e = .returned (.pointer (some ⟨w.heap.size, 0, none⟩)) ∧ LT w' w.heap.size (.slice A n c) ∧ Below w.heap.size w w' := by
  go_enter Tryz.func56, Tryz.ntmps56
  go_wp2
  go_ret
  exact ⟨rfl, blk_new _ _, (Below.refl _ w).alloc (Nat.le_refl _) _⟩
set_option maxRecDepth 100000 in
theorem listIndex_c (g A c j : Nat) (vs : List Value) (T : TypeId) (x : Value) (w : World) (h : EL w g A c vs) (hj : j < vs.length) (hn : vs.length ≤ 1000000) (hx : vs[j] = .iface T x) : Calls Tryz.prog 124 #[.pointer (some ⟨g, 0, none⟩), .int .i64 j] w fun e w' => e = .returned (.iface T x) ∧ w' = w := by
  have c0 := blk_cell h.lt 0 _ rfl
  have cj := h.cl j hj
  rw [hx] at cj
  clear h hx
  go_enter Tryz.func124, Tryz.ntmps124
  go_wp2
  go_ret
  exact ⟨rfl, rfl⟩

/-- Int.BigInt: a new Int of the number. -/
def NewB (w : World) (x : Int) (e : Ending) (w' : World) : Prop :=
  ∃ g n v zs, w.heap.size ≤ g ∧ e = .returned (.pointer (some ⟨g, 0, none⟩)) ∧ PI w' g 0 n v zs ∧ (zs = [] → n = false) ∧ bval n zs = x ∧ zs.length ≤ 8 ∧ Below w.heap.size w w'
set_option maxRecDepth 100000 in
theorem bigIntM_c (B : Nat) (u : Value) (x : Int) (w : World) (h : SIv B w u x) (hx : x.natAbs < 256 ^ 60) :
    Calls Tryz.prog 107 #[u] w (NewB w x) := by
  have HF := Lib.hid (fun n zs hw ht hv => few_words n zs x hw ht hv hx)
  clear hx
  rcases h with ⟨hs, rfl⟩ | ⟨hs, g, neg, v, zs, rfl, hg, hb, hv, hl⟩
  · have HR := Lib.hid (fun w' : World => newInt_c x w' hs)
    clear hs HF
    go_enter Tryz.func107, Tryz.ntmps107
    go_wp2_with (first
      | (go_at_call 98; (with_reducible refine (get_c _ _ _).mono ?_); rintro e w1 ⟨rfl, hb1⟩; have HB := Lib.hid (((Below.refl _ w).alloc (Nat.le_refl _) _).trans (hb1.mono (by simp))); clear hb1)
      | (go_at_call 144; (with_reducible refine (HR.out _).mono ?_); rintro e w2 ⟨g, n, v, zs, h1, rfl, h2, h3, h4, h5, h6⟩; have HE := Lib.hid (And.intro h1 (And.intro h2 (And.intro h3 (And.intro h4 (And.intro h5 h6))))); clear h1 h2 h3 h4 h5 h6))
    go_ret
    obtain ⟨h1, h2, h3, h4, h5, h6⟩ := HE.out
    exact ⟨g, n, v, zs, Nat.le_trans HB.out.size h1, rfl, h2, h3, h4, by omega, HB.out.trans (h6.mono HB.out.size)⟩
  · have hzs := HF.out neg zs hb.words hb.top hv
    have hne : zs ≠ [] := by
      rintro rfl
      rw [show x = 0 by rw [← hv]; unfold bval; cases neg <;> rfl] at hs
      cases hs
    have HP : Hid (∀ w1, Below w.heap.size w w1 → PI w1 g 0 neg v zs ∧ w1.heap.size ≠ g) := Lib.hid fun w1 h1 => by
      have h2 := hb.below h1
      refine ⟨⟨⟨_, _, h2.blk, rfl, rfl⟩, h2.sl.mono (Nat.zero_le _), h2.words, h2.top⟩, ?_⟩
      have := h1.size; have := lt_blk hb.blk; omega
    have HS := Lib.hid (fun (w1 : World) (h1 : Below w.heap.size w w1) => intSetAt_c g 0 w1.heap.size 0 neg false v zs (w1.alloc (.cells #[.bool false, .slice none 0 0] 196)) (HP.out _ (h1.alloc h1.size _)).1 hne (by omega) (HP.out w1 h1).2 (blk_new _ _) rfl rfl)
    have HE : Hid (∀ w1 e w2, Below w.heap.size w w1 → WroteL (w1.alloc (.cells #[.bool false, .slice none 0 0] 196)) w1.heap.size 0 zs neg e w2 → NewB w x e w2) := Lib.hid fun w1 e w2 hb1 hw => by
      obtain ⟨he, W, c, rfl, hc, hr, hbW, hszW⟩ := hw
      have hk : W.heap[w1.heap.size]? = some (.cells #[.bool false, .slice none 0 0] 196 (0, 0)) := blk_below (blk_new _ _) hbW
      have hsl := hr.sl' hszW hc (by omega)
      refine ⟨w1.heap.size, neg, _, zs, hb1.size, he, ⟨⟨_, _, blk_put (blk_put hk 1 _ rfl) 0 _ rfl, rfl, rfl⟩, ?_, hb.words, hb.top⟩, fun h => absurd h hne, hv, hzs, ?_⟩
      · exact ((((hsl.mono (by simp : w1.heap.size + 1 ≤ _)).setCell (p := ⟨w1.heap.size, 0 + 1, none⟩) _ (by show w1.heap.size < w1.heap.size + 1; omega)).setCell (p := ⟨w1.heap.size, 0, none⟩) _ (by show w1.heap.size < w1.heap.size + 1; omega))).mono (Nat.zero_le _)
      · have hB2 := hb1.alloc hb1.size (.cells #[.bool false, .slice none 0 0] 196)
        exact ((hB2.trans (hbW.mono hB2.size)).setCell (p := ⟨w1.heap.size, 0 + 1, none⟩) hb1.size _).setCell (p := ⟨w1.heap.size, 0, none⟩) hb1.size _
    clear hs HF hzs hne hb hl hv HP
    go_enter Tryz.func107, Tryz.ntmps107
    go_wp2_with (first
      | (go_at_call 98; (with_reducible refine (get_c _ _ _).mono ?_); rintro e w1 ⟨rfl, hb1⟩; have HB := Lib.hid (((Below.refl _ w).alloc (Nat.le_refl _) _).trans (hb1.mono (by simp))); clear hb1)
      | (go_at_call 132; (with_reducible refine (HS.out _ HB.out).mono ?_); intro e w2 hw2; replace HE := Lib.hid (HE.out _ _ _ HB.out hw2); obtain ⟨rfl, _⟩ := hw2))
    go_ret
    exact HE.out
end Go.Proofs.YtkplnbjgkhmbcaaGreatDoor
