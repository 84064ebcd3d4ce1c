/- Pieces of big.Rat: one word onto nil, 1 as an Int, a word shifted to the left. · One word shifted to the left. -/
import Derived.Test.YtkplnbjgkhmbcaaGreatDoorM15
import Derived.Test.YtkplnbjgkhmbcaaGreatDoorM12
import Derived.Test.YtkplnbjgkhmbcaaGreatDoorM06
import Derived.Test.YtkplnbjgkhmbcaaGreatDoorM04b
import Derived.Lib.SliceRun
import Derived.BigQuiet
import Derived.Deep.QuietTactic
import Derived.WalkLawsBesides
namespace Go.Proofs.YtkplnbjgkhmbcaaGreatDoor
open Go.RowKit Go.Shelf Go.Proofs.YtkplnbjgkhmbcaaGreatDoorW.PrintWords Go.Proofs.YtkplnbjgkhmbcaaGreatDoorW.PrintLast Go.Proofs.YtkplnbjgkhmbcaaGreatDoorW.PrintMore
set_option linter.unusedVariables false
set_option linter.unusedSimpArgs false

set_option maxRecDepth 100000 in
/-- nat.make of one word, onto nil. -/
theorem makeOne_c (w : World) :
    Calls Tryz.prog 161 #[.slice none 0 0, .int .i64 1] w fun e w' =>
      e = .returned (.slice (some ⟨w.heap.size, 0, none⟩) 1 1) ∧ IRow .u64 w' w.heap.size [0] ∧ Below w.heap.size w w' ∧ w'.heap.size = w.heap.size + 1 := by
  obtain ⟨i, hi, hzz⟩ := Option.map_eq_some_iff.1 wordInfo
  simp only [Prod.mk.injEq] at hzz
  obtain ⟨hz, hs, hb⟩ := hzz
  have hmk := fun (w : World) => run_make (P := Tryz.prog) w 194 265 i (.int .u64 0) Tryz.underlying194 hi hz .i64 .i64 1 1 (by omega) (by omega) (by rw [hb]; omega) (by omega)
  simp only [hs, Nat.mul_one] at hmk
  have hcl : (Value.int .u64 0).cells = #[.int .u64 0] := rfl
  rw [hcl] at hmk
  clear hcl hs hb hi hz
  go_enter Tryz.func161, Tryz.ntmps161
  go_wp2
  go_ret
  exact ⟨rfl, irow_zeros w .u64 1 _ _ (by decide), (Below.refl _ w).alloc (Nat.le_refl _) _, by simp⟩

theorem irow_set1 {w : World} {g : Nat} {x y : Int} (h : IRow .u64 w g [x]) : IRow .u64 (w.setCell ⟨g, 0, none⟩ (.int .u64 y)) g [y] := by
  have := h.set 0 (by simp) y
  simpa using this
/-- What one word in a new row leaves. -/
def One (w : World) (x : Int) (e : Ending) (w' : World) : Prop :=
  e = .returned (.slice (some ⟨w.heap.size, 0, none⟩) 1 1) ∧ IRow .u64 w' w.heap.size [x] ∧ Below w.heap.size w w' ∧ w'.heap.size = w.heap.size + 1

set_option maxRecDepth 100000 in
theorem setWordO_c (x : Int) (w : World) (hx : x ≠ 0) : Calls Tryz.prog 133 #[.slice none 0 0, .int .u64 x] w (One w x) := by
  have ex : (x == 0) = false := by simp [hx]
  have HM := Lib.hid (fun w => makeOne_c w)
  clear hx
  go_enter Tryz.func133, Tryz.ntmps133
  go_wp2_with (go_at_call 161; refine (HM.out _).mono ?_; rintro e w1 ⟨rfl, hr1, hb1, hz1⟩; have q1 := hr1.1 0 (by simp); have q2 := hr1.2 0 (by simp); have HR1 := Lib.hid hr1; have HB1 := Lib.hid hb1; have HZ1 := Lib.hid hz1; clear hr1 hb1 hz1)
  go_ret
  exact ⟨rfl, irow_set1 HR1.out, HB1.out.setCell (Nat.le_refl _) _, by have := HZ1.out; simpa [World.setCell] using this⟩

set_option maxRecDepth 100000 in
/-- setWord onto one's own row of one word. -/
theorem setWordR_c (r : Nat) (x y : Int) (w : World) (hx : x ≠ 0) (hr : IRow .u64 w r [y]) : Calls Tryz.prog 133 #[.slice (some ⟨r, 0, none⟩) 1 1, .int .u64 x] w fun e w' => e = .returned (.slice (some ⟨r, 0, none⟩) 1 1) ∧ w' = w.setCell ⟨r, 0, none⟩ (.int .u64 x) := by
  have ex : (x == 0) = false := by simp [hx]
  have q1 := hr.1 0 (by simp)
  have q2 := hr.2 0 (by simp)
  have HM : Hid (Calls Tryz.prog 161 #[.slice (some ⟨r, 0, none⟩) 1 1, .int .i64 1] w fun e w' => e = .returned (.slice (some ⟨r, 0, none⟩) 1 1) ∧ w = w') := by
    refine Lib.hid ?_
    clear hr q1 q2 ex hx
    go_enter Tryz.func161, Tryz.ntmps161
    go_wp2
    go_ret
    exact ⟨rfl, rfl⟩
  clear hx hr
  go_enter Tryz.func133, Tryz.ntmps133
  go_wp2_with (go_at_call 161; with_reducible refine HM.out.mono ?_; rintro e w1 ⟨rfl, rfl⟩)
  go_ret
  exact ⟨rfl, rfl⟩

set_option maxRecDepth 100000 in
theorem setUint64O_c (x : Int) (w : World) (h0 : 0 < x) (h1 : x < 18446744073709551616) : Calls Tryz.prog 162 #[.slice none 0 0, .int .u64 x] w (One w x) := by
  have HS := Lib.hid (setWordO_c x w (by omega))
  go_enter Tryz.func162, Tryz.ntmps162
  go_wp2_with (go_at_call 133; (with_reducible refine HS.out.mono ?_); rintro e w1 ⟨rfl, hr, hb, hz⟩; have HR := Lib.hid (And.intro hr (And.intro hb hz)); clear hr hb hz)
  go_ret
  exact ⟨rfl, HR.out⟩
set_option maxRecDepth 100000 in
theorem setUint64Z_c (w : World) : Calls Tryz.prog 162 #[.slice none 0 0, .int .u64 0] w fun e w' => e = .returned (.slice none 0 0) ∧ w' = w := by
  have HS : Hid (∀ w, Calls Tryz.prog 133 #[.slice none 0 0, .int .u64 0] w fun e w' => e = .returned (.slice none 0 0) ∧ w = w') := by
    refine Lib.hid fun w => ?_
    go_enter Tryz.func133, Tryz.ntmps133
    go_wp2
    go_ret
    exact ⟨rfl, rfl⟩
  go_enter Tryz.func162, Tryz.ntmps162
  go_wp2_with (go_at_call 133; with_reducible refine (HS.out _).mono ?_; rintro e w1 ⟨rfl, rfl⟩)
  go_ret
  exact ⟨rfl, rfl⟩

set_option maxRecDepth 100000 in
theorem natSetOne_c (B : Nat) (v : Value) (x : Int) (w : World) (h : Sl .u64 B w v [x]) :
    Calls Tryz.prog 160 #[.slice none 0 0, v] w (One w x) := by
  obtain ⟨A, c, rfl, h1, h2, h3⟩ := h
  obtain ⟨b, o, rfl, hB, hlt, hc⟩ := h3 (by simp)
  have HC := Lib.hid hc
  clear hc h3 h2
  go_enter Tryz.func160, Tryz.ntmps160
  go_wp2_with (go_at_call 161; refine (makeOne_c _).mono ?_; rintro e w1 ⟨rfl, hr1, hb1, hsz1⟩; obtain ⟨w2, hcp, hr2, hb2, hz2⟩ := copy_fresh w1 w.heap.size b o c 1 [x] _ (by simp) hr1 (fun j hj => (hb1.cell (p := ⟨b, o + j, none⟩) hlt).trans (HC.out j hj)); have HR := Lib.hid hr2; have HB := Lib.hid (hb2 _ _ (Nat.le_refl _) hb1); have HZ := Lib.hid (And.intro hsz1 hz2); clear hr1 hb1 hr2 hb2 hsz1 hz2; simp only [List.length_singleton] at hcp)
  go_ret
  exact ⟨rfl, HR.out, HB.out, by have := HZ.out; omega⟩

set_option maxRecDepth 100000 in
theorem natOne_c (w : World) : Calls Tryz.prog 172 #[] w fun e w' => e = .returned (.slice (some ⟨w.heap.size, 0, none⟩) 1 1) ∧ w' = w.alloc (.cells #[.int .u64 1] 265) := by
  go_enter Tryz.func172, Tryz.ntmps172
  go_wp2
  go_ret
  exact ⟨rfl, rfl⟩
set_option maxRecDepth 100000 in
theorem intOne_c (w : World) : Calls Tryz.prog 139 #[] w fun e w' => ∃ gx u, e = .returned (.pointer (some ⟨gx, 0, none⟩)) ∧ w.heap.size ≤ gx ∧ PI w' gx 0 false u [1] ∧ Below w.heap.size w w' := by
  go_enter Tryz.func139, Tryz.ntmps139
  go_wp2_with (go_at_call 172; refine (natOne_c _).mono ?_; rintro e w1 ⟨rfl, rfl⟩)
  go_ret
  have e1 : ∀ o, (w.alloc o).heap.size = w.heap.size + 1 := fun o => by simp
  refine ⟨w.heap.size + 1, .slice (some ⟨w.heap.size, 0, none⟩) 1 1, rfl, by omega, ⟨⟨_, _, by simpa using blk_new (w.alloc (.cells #[.int .u64 1] 265)) (.cells #[.bool false, .slice (some ⟨w.heap.size, 0, none⟩) 1 1] 196), rfl, rfl⟩, ⟨_, 1, rfl, Nat.le_refl _, by simp, fun _ => ⟨w.heap.size, 0, rfl, Nat.zero_le _, by simp; omega, fun j hj => ?_⟩⟩, ?_, ?_⟩, ((Below.refl _ _).alloc (Nat.le_refl _) _).alloc (by simp) _⟩
  · have hj0 : j = 0 := by simpa using hj
    subst hj0
    have h0 : (w.alloc (.cells #[.int .u64 1] 265)).cell? ⟨w.heap.size, 0, none⟩ = some (.int .u64 1) := blk_cell (blk_new _ _) 0 _ rfl
    exact (((Below.refl _ _).alloc (Nat.le_refl _) _).cell (p := ⟨w.heap.size, 0 + 0, none⟩) (by simp)).trans h0
  · intro z hz
    rw [List.mem_singleton] at hz; omega
  · intro _; simp

/-- z.SetUint64(x), z any Int that is 0 and new: what its two cells hold behind it. -/
def Wrote (w : World) (g o : Nat) (x : Int) (b : Bool) (e : Ending) (w' : World) : Prop :=
  e = .returned (.pointer (some ⟨g, o, none⟩)) ∧ ∃ W, w' = (W.setCell ⟨g, o + 1, none⟩ (.slice (some ⟨w.heap.size, 0, none⟩) 1 1)).setCell ⟨g, o, none⟩ (.bool b) ∧ IRow .u64 W w.heap.size [x] ∧ Below w.heap.size w W ∧ w.heap.size < W.heap.size
set_option maxRecDepth 100000 in
theorem intSetUint64_c (g o : Nat) (n0 : Bool) (x : Int) (w : World) (h0 : 0 < x) (h1 : x < 18446744073709551616) (c0 : w.cell? ⟨g, o, none⟩ = some (.bool n0)) (c1 : w.cell? ⟨g, o + 1, none⟩ = some (.slice none 0 0)) (f0 : w.frozen? ⟨g, o, none⟩ = false) (f1 : w.frozen? ⟨g, o + 1, none⟩ = false) :
    Calls Tryz.prog 138 #[.pointer (some ⟨g, o, none⟩), .int .u64 x] w (Wrote w g o x false) := by
  have HS := Lib.hid (setUint64O_c x w h0 h1)
  have hlt := lt_of_cell c0
  go_enter Tryz.func138, Tryz.ntmps138
  go_wp2_with (go_at_call 162; (with_reducible refine HS.out.mono ?_); rintro e w1 ⟨rfl, hr, hb, hz⟩; have HR := Lib.hid (And.intro hr (And.intro hb (Nat.lt_of_lt_of_eq (Nat.lt_succ_self _) hz.symm))); have d0 := (hb.cell (p := ⟨g, o, none⟩) hlt).trans c0; have d1 := (hb.cell (p := ⟨g, o + 1, none⟩) hlt).trans c1; have e0 := (hb.frozen (p := ⟨g, o, none⟩) hlt).trans f0; have e1 := (hb.frozen (p := ⟨g, o + 1, none⟩) hlt).trans f1; clear hr hb hz)
  go_ret
  exact ⟨rfl, w1, rfl, HR.out⟩
set_option maxRecDepth 100000 in
theorem intSetUint64Z_c (g o : Nat) (n0 : Bool) (w : World) (c0 : w.cell? ⟨g, o, none⟩ = some (.bool n0)) (c1 : w.cell? ⟨g, o + 1, none⟩ = some (.slice none 0 0)) (f0 : w.frozen? ⟨g, o, none⟩ = false) (f1 : w.frozen? ⟨g, o + 1, none⟩ = false) :
    Calls Tryz.prog 138 #[.pointer (some ⟨g, o, none⟩), .int .u64 0] w fun e w' => e = .returned (.pointer (some ⟨g, o, none⟩)) ∧ w' = (w.setCell ⟨g, o + 1, none⟩ (.slice none 0 0)).setCell ⟨g, o, none⟩ (.bool false) := by
  have HS := Lib.hid (setUint64Z_c w)
  go_enter Tryz.func138, Tryz.ntmps138
  go_wp2_with (go_at_call 162; (with_reducible refine HS.out.mono ?_); rintro e w1 ⟨rfl, rfl⟩)
  go_ret
  exact ⟨rfl, rfl⟩

set_option maxRecDepth 100000 in
/-- z.Set(x), x of one word, z any Int that is 0 and new. -/
theorem intSetOneAt_c (g o g2 o2 : Nat) (neg n0 : Bool) (v : Value) (x : Int) (w : World) (h : PI w g o neg v [x]) (hne : g2 ≠ g) {cs : Array Value} {t : TypeId} (hk : w.heap[g2]? = some (.cells cs t (0, 0))) (c0 : cs[o2]? = some (.bool n0)) (c1 : cs[o2 + 1]? = some (.slice none 0 0)) :
    Calls Tryz.prog 132 #[.pointer (some ⟨g2, o2, none⟩), .pointer (some ⟨g, o, none⟩)] w (Wrote w g2 o2 x neg) := by
  obtain ⟨cs1, ct1, hblk, _⟩ := h.blk
  have hpe : (binOp .neq 118 (.pointer (some ⟨g2, o2, none⟩)) (.pointer (some ⟨g, o, none⟩))).run Tryz.prog w = .ok (.bool true) w := by
    obtain ⟨i, hi, hs⟩ := Option.map_eq_some_iff.1 intInfo
    exact run_neq_ptr_other w Tryz.underlying118 hi (by rw [hs]; decide) (by intro e; injection e with e; exact hne e) hk hblk
  clear hblk
  have d0 := blk_cell hk o2 _ c0
  have d1 := blk_cell hk (o2 + 1) _ c1
  have g0 := blk_free hk o2
  have g1 := blk_free hk (o2 + 1)
  have hlt2 : g2 < w.heap.size := lt_of_cell d0
  clear hk c0 c1
  have c0 := h.c0
  have c1 := h.c1
  have hlt := h.lt
  have HC := Lib.hid (fun w' (hb : Below w.heap.size w w') => natSetOne_c _ v x w' (h.sl.below hb))
  have hnq : g ≠ g2 := Ne.symm hne
  obtain ⟨A, c, rfl, _⟩ := h.sl.c
  simp only [List.length_singleton] at c1 HC
  clear h
  have HB0 : Hid (Below w.heap.size w w) := Below.refl _ _
  go_enter Tryz.func132, Tryz.ntmps132
  go_wp2
  go_region_with (go_at_call 160; refine (HC.out _ HB0.out.drew).mono ?_; rintro e w1 ⟨rfl, hr, hb, hz⟩; have hb1 := HB0.out.drew.trans hb; have HR := Lib.hid (And.intro hr (And.intro hb1 (Nat.lt_of_lt_of_eq (Nat.lt_succ_self _) hz.symm))); have q0 := (hb1.cell (p := ⟨g2, o2, none⟩) hlt2).trans d0; have q1 := (hb1.cell (p := ⟨g2, o2 + 1, none⟩) hlt2).trans d1; have r0 := (hb1.frozen (p := ⟨g2, o2, none⟩) hlt2).trans g0; have r1 := (hb1.frozen (p := ⟨g2, o2 + 1, none⟩) hlt2).trans g1; have p0 := (hb1.cell (p := ⟨g, o, none⟩) hlt).trans c0; have p1 := (hb1.cell (p := ⟨g, o + 1, none⟩) hlt).trans c1; clear hr hb hz hb1)
  all_goals go_wp2
  all_goals go_ret
  all_goals exact ⟨rfl, w1, rfl, HR.out⟩
end Go.Proofs.YtkplnbjgkhmbcaaGreatDoor

namespace Go.Proofs.YtkplnbjgkhmbcaaGreatDoor
open Go.RowKit Go.Shelf Go.Proofs.YtkplnbjgkhmbcaaGreatDoorW.PrintWords Go.Proofs.YtkplnbjgkhmbcaaGreatDoorW.PrintLast Go.Proofs.YtkplnbjgkhmbcaaGreatDoorW.PrintMore
set_option linter.unusedVariables false
set_option linter.unusedSimpArgs false

theorem and63 (s : Nat) (h : s < 64) : Go.bits .and .u64 (s : Int) 63 = (s : Int) := by
  have := and_mask s 6 (by omega) (by omega)
  rw [Nat.mod_eq_of_lt (by omega)] at this
  exact this
theorem shr_part (x : Int) (s t : Nat) (h : s + t = 64) : x / 2 ^ t = x * 2 ^ s / 18446744073709551616 := by
  have e : (18446744073709551616 : Int) = 2 ^ t * 2 ^ s := by rw [← Int.pow_add, show t + s = 64 from by omega]; decide
  rw [e, Int.mul_ediv_mul_of_pos_left _ _ (two_pos s)]
theorem wordPInfo : (Tryz.prog.info? 265).map (·.size) = some 1 := wordSize
set_option maxRecDepth 100000 in
theorem same_c (r : Nat) (w : World) : Calls Tryz.prog 195 #[.slice (some ⟨r, 0, none⟩) 1 1, .slice (some ⟨r, 0, none⟩) 1 1] w fun e w' => e = .returned (.bool true) ∧ ∃ k, w' = w.drewN k := by
  obtain ⟨i, hi, _⟩ := Option.map_eq_some_iff.1 wordPInfo
  have hpe := fun (w : World) => run_eql_ptr_same (P := Tryz.prog) (w := w) ⟨r, 0, none⟩ Tryz.underlying341 hi
  go_enter Tryz.func195, Tryz.ntmps195
  go_wp2
  go_quiet (fail)
  go_wp2
  go_ret
  exact ⟨rfl, _, rfl⟩
set_option maxRecDepth 100000 in
/-- x << 0, in place. -/
theorem lsh0_c (r : Nat) (w : World) : Calls Tryz.prog 173 #[.slice (some ⟨r, 0, none⟩) 1 1, .slice (some ⟨r, 0, none⟩) 1 1, .int .u64 0] w fun e w' => e = .returned (.slice (some ⟨r, 0, none⟩) 1 1) ∧ ∃ k, w' = w.drewN k := by
  have HS := Lib.hid (same_c r w)
  go_enter Tryz.func173, Tryz.ntmps173
  go_wp2_with (go_at_call 195; with_reducible refine HS.out.mono ?_; rintro e w1 ⟨rfl, k, rfl⟩)
  go_ret
  exact ⟨rfl, _, rfl⟩

set_option maxRecDepth 100000 in
set_option maxHeartbeats 1000000 in
/-- lshVU of one word. -/
theorem lshVU_c (g b i c1 c : Nat) (x : Int) (s : Nat) (w : World) (h0 : 0 ≤ x) (h1 : x < 18446744073709551616) (hs : 0 < s) (hs2 : s < 64) (u : Int) (hz : w.cell? ⟨g, i, none⟩ = some (.int .u64 u)) (hf : w.frozen? ⟨g, i, none⟩ = false) (hx : w.cell? ⟨b, 0, none⟩ = some (.int .u64 x)) (hb : b ≠ g) :
    Calls Tryz.prog 196 #[.slice (some ⟨g, i, none⟩) 1 c1, .slice (some ⟨b, 0, none⟩) 1 c, .int .u64 s] w fun e w' => e = .returned (.int .u64 (x * 2 ^ s / 18446744073709551616)) ∧ w' = w.setCell ⟨g, i, none⟩ (.int .u64 (x * 2 ^ s % 18446744073709551616)) := by
  have HG : Hid (Calls Tryz.prog 219 #[.slice (some ⟨g, i, none⟩) 1 c1, .slice (some ⟨b, 0, none⟩) 1 c, .int .u64 s] w fun e w' => e = .returned (.int .u64 (x * 2 ^ s / 18446744073709551616)) ∧ w' = w.setCell ⟨g, i, none⟩ (.int .u64 (x * 2 ^ s % 18446744073709551616))) := by
    refine Lib.hid ?_
    have s0 : ((s : Int) == 0) = false := beq_eq_false_iff_ne.2 (by omega)
    obtain ⟨t, ht⟩ : ∃ t : Nat, s + t = 64 := ⟨64 - s, by omega⟩
    have m1 : Go.bits .and .u64 (s : Int) 63 = (s : Int) := and63 s hs2
    have m2 : IntKind.u64.wrap (64 - (s : Int)) = (t : Int) := by rw [IntKind.wrap_u64]; omega
    have m3 : Go.bits .and .u64 (t : Int) 63 = (t : Int) := and63 t (by omega)
    have m4 : Op.shift .shr .u64 x .u64 (t : Int) = pure (.int .u64 (x * 2 ^ s / 18446744073709551616)) := by
      rw [shift_shr_any .u64 .u64 x t (by omega), Int.toNat_natCast, ← shr_part x s t ht]
      rw [show min t IntKind.u64.bits = t from by simp [IntKind.bits]; omega]
    have m5 : Op.shift .shl .u64 x .u64 (s : Int) = pure (.int .u64 (x * 2 ^ s % 18446744073709551616)) := by
      rw [shift_shl_any .u64 .u64 x s (by omega), Int.toNat_natCast]
      rw [show min s IntKind.u64.bits = s from by simp [IntKind.bits]; omega, IntKind.wrap_u64]
    generalize x * 2 ^ s / 18446744073709551616 = q at m4 ⊢
    generalize x * 2 ^ s % 18446744073709551616 = m at m5 ⊢
    clear ht hs hs2
    go_enter Tryz.func219, Tryz.ntmps219
    go_wp2
    refine wp_loop_rounds 1 ?_
    rw [rounds_succ]
    go_wp2
    go_ret
    exact ⟨rfl, rfl⟩
  go_enter Tryz.func196, Tryz.ntmps196
  go_wp2_with (go_at_call 219; with_reducible refine HG.out.mono ?_; rintro e w1 ⟨rfl, rfl⟩)
  go_ret
  exact ⟨rfl, rfl⟩

theorem shl1_zero (x : Int) (q r : Nat) (hx : 0 ≤ x) (hx1 : x < 18446744073709551616) : shl1 x q 0 = List.replicate q 0 ++ [x, 0] := by
  unfold shl1
  simp only [Int.pow_zero, Int.mul_one]
  rw [Int.emod_eq_of_lt hx hx1, Int.ediv_eq_zero_of_lt hx hx1]
theorem set_two (q : Nat) (m c : Int) : ((List.replicate (q + 2) (0 : Int)).set q m).set (q + 1) c = List.replicate q 0 ++ [m, c] := by
  rw [show List.replicate (q + 2) (0 : Int) = List.replicate q 0 ++ [0, 0] from by rw [← List.replicate_append_replicate]; rfl]
  rw [List.set_append_right _ _ (by simp), List.set_append_right _ _ (by simp)]
  simp
theorem irow_zeros_set (g : Nat) (l : List Int) : ∀ (k o : Nat) (w : World), IRow .u64 w g l → o + k ≤ l.length → (∀ j (h : j < l.length), o ≤ j → j < o + k → l[j] = 0) → IRow .u64 (w.setCells g o (List.replicate k (.int .u64 0))) g l := by
  intro k
  induction k with
  | zero => intro o w h _ _; exact h
  | succ k ih =>
    intro o w h hl hz
    rw [List.replicate_succ]
    show IRow .u64 ((w.setCell ⟨g, o, none⟩ (.int .u64 0)).setCells g (o + 1) (List.replicate k (.int .u64 0))) g l
    refine ih (o + 1) _ ?_ (by omega) (fun j hj h1 h2 => hz j hj (by omega) (by omega))
    have h1 := h.set o (by omega) 0
    have e : l.set o 0 = l := by
      have h0 := hz o (by omega) (Nat.le_refl _) (by omega)
      rw [← h0]; exact List.set_getElem_self _
    rw [e] at h1
    exact h1
/-- clear of the zeros below. -/
theorem clear_low (w : World) (g q c : Nat) (l : List Int) (hl : q ≤ l.length) (hz : ∀ j (h : j < l.length), j < q → l[j] = 0) (hq : 0 < q) (hr : IRow .u64 w g l) :
    ∃ w2, (∀ ty : TypeId, (Builtin.clear_ #[194] ty #[.slice (some ⟨g, 0, none⟩) q c]).run Tryz.prog w = .ok (.tuple #[]) w2) ∧ IRow .u64 w2 g l ∧ (∀ B W, B ≤ g → Below B W w → Below B W w2) ∧ w2.heap.size = w.heap.size := by
  refine ⟨w.setCells g 0 (List.replicate q (.int .u64 0)), fun ty => ?_, irow_zeros_set g l q 0 w hr (by omega) (fun j h _ h2 => hz j h (by omega)), fun B W hB hb => below_setCells hB _ _ _ hb, size_setCells _ _ _ _⟩
  refine Lib.run_clear_slice w _ 265 ty (.int .u64 0) Tryz.underlying194 zeroWord rfl rfl g 0 q c hq ?_ ?_
  · intro j hj
    rw [Nat.zero_add, hr.1 j (by omega)]; rfl
  · intro j hj
    rw [Nat.zero_add]; exact hr.2 j (by omega)
theorem clear_none (w : World) (A : Option Addr) (c : Nat) (ty : TypeId) : (Builtin.clear_ #[194] ty #[.slice A 0 c]).run Tryz.prog w = .ok (.tuple #[]) w := by
  have hu : Tryz.prog.underlying 194 = some (.slice 265) := Tryz.underlying194
  cases A <;> simp [Builtin.clear_, run_underlying hu, zeroWord]

theorem clear_any (w : World) (g q c : Nat) (l : List Int) (hl : q ≤ l.length) (hz : ∀ j (h : j < l.length), j < q → l[j] = 0) (hr : IRow .u64 w g l) :
    ∃ w2, (∀ ty : TypeId, (Builtin.clear_ #[194] ty #[.slice (some ⟨g, 0, none⟩) q c]).run Tryz.prog w = .ok (.tuple #[]) w2) ∧ IRow .u64 w2 g l ∧ (∀ B W, B ≤ g → Below B W w → Below B W w2) ∧ w2.heap.size = w.heap.size := by
  rcases Nat.eq_zero_or_pos q with h | h
  · subst h
    exact ⟨w, fun ty => clear_none w _ c ty, hr, fun _ _ _ hb => hb, rfl⟩
  · exact clear_low w g q c l hl hz h hr
set_option maxRecDepth 100000 in
/-- nat.make of several words, onto one. -/
theorem makeOver_c (r n : Nat) (w : World) (h0 : 2 ≤ n) (h1 : n ≤ 1000000) :
    Calls Tryz.prog 161 #[.slice (some ⟨r, 0, none⟩) 1 1, .int .i64 n] w fun e w' =>
      ∃ c, e = .returned (.slice (some ⟨w.heap.size, 0, none⟩) n c) ∧ n ≤ c ∧ c ≤ n + 4 ∧ IRow .u64 w' w.heap.size (List.replicate n 0) ∧ Below w.heap.size w w' ∧ w'.heap.size = w.heap.size + 1 := by
  obtain ⟨i, hi, hzz⟩ := Option.map_eq_some_iff.1 wordInfo
  simp only [Prod.mk.injEq] at hzz
  obtain ⟨hz, hs, hb⟩ := hzz
  have hmk := fun (l c : Int) (h0 : 0 ≤ l) (hlc : l ≤ c) (hc : c ≤ 4398046511200) (w : World) => run_make (P := Tryz.prog) w 194 265 i (.int .u64 0) Tryz.underlying194 hi hz .i64 .i64 l c h0 hlc (by rw [hb]; omega) (by omega)
  simp only [hs, Nat.mul_one] at hmk
  have hcl : (Value.int .u64 0).cells = #[.int .u64 0] := rfl
  rw [hcl] at hmk
  have m2 := hmk n (n + 4) (by omega) (by omega) (by omega)
  rw [show ((n : Int) + 4).toNat = n + 4 from by omega, Int.toNat_natCast] at m2
  clear hmk hcl hs hb hi hz
  have hb1 : ((n : Int) == 1) = false := beq_eq_false_iff_ne.2 (by omega)
  have hb2 : ¬ (n : Int) ≤ 1 := by omega
  have hb3 : ¬ n ≤ 1 := by omega
  go_enter Tryz.func161, Tryz.ntmps161
  go_wp2
  go_ret
  exact ⟨n + 4, rfl, by omega, by omega, irow_zeros w .u64 n _ _ (by omega), (Below.refl _ w).alloc (Nat.le_refl _) _, by simp⟩

theorem rep_low (q : Nat) (l : List Int) (j : Nat) (h : j < (List.replicate q (0 : Int) ++ l).length) (hj : j < q) : (List.replicate q (0 : Int) ++ l)[j] = 0 := by
  rw [List.getElem_append_left (by simpa using hj), List.getElem_replicate]
theorem shl1_low (x : Int) (q r : Nat) : ∀ j (h : j < (shl1 x q r).length), j < q → (shl1 x q r)[j] = 0 := fun j h hj => rep_low q _ j h hj

/-- copy of one word into a row of the call's own. -/
theorem copy_one (w : World) (g q c1 r : Nat) (x : Int) (l0 : List Int) (hq : q < l0.length) (hr : IRow .u64 w g l0) (hx : w.cell? ⟨r, 0, none⟩ = some (.int .u64 x)) :
    ∃ w2, (∀ ty : TypeId, (Builtin.copy_ #[194, 194] ty #[.slice (some ⟨g, q, none⟩) 1 c1, .slice (some ⟨r, 0, none⟩) 1 1]).run Tryz.prog w = .ok (.int .i64 1) w2) ∧ w2 = w.setCell ⟨g, q, none⟩ (.int .u64 x) := by
  refine ⟨_, fun ty => ?_, rfl⟩
  have := run_copy_cells (P := Tryz.prog) w 194 194 ty 265 g q 1 c1 ⟨r, 0, none⟩ 1 1 [.int .u64 x] Tryz.underlying194 wordSize (by simp) ?_ ?_ ?_ ?_
  · have h2 : (Builtin.copy_ #[194, 194] ty #[.slice (some ⟨g, q, none⟩) 1 c1, .slice (some ⟨r, 0, none⟩) 1 1]).run Tryz.prog w = .ok (.int .i64 1) (w.setCells g q [.int .u64 x]) := by simpa [goInt] using this
    exact h2
  · intro j v hv
    obtain ⟨hj, rfl⟩ := List.getElem?_eq_some_iff.1 hv
    have hj0 : j = 0 := by simpa using hj
    subst hj0
    rw [addr_add]; exact hx
  · intro j hj
    have hj0 : j = 0 := by simpa using hj
    subst hj0
    rw [Nat.add_zero, hr.1 q hq]; rfl
  · intro j hj
    have hj0 : j = 0 := by simpa using hj
    subst hj0
    rw [Nat.add_zero]; exact hr.2 q hq
  · intro v hv
    rw [List.mem_singleton] at hv; rw [hv]; rfl
theorem after_shift {w w1 w2 : World} {q a n : Nat} {m : Int} (hr : IRow .u64 w1 w.heap.size (List.replicate n 0)) (hb : Below w.heap.size w w1) (hz : w1.heap.size = w.heap.size + 1) (ha : q + 1 = a) (hn : a + 1 = n) (h : w2 = w1.setCell ⟨w.heap.size, q, none⟩ (.int .u64 m)) :
    w2.cell? ⟨w.heap.size, a, none⟩ = some (.int .u64 0) ∧ w2.frozen? ⟨w.heap.size, a, none⟩ = false ∧ IRow .u64 w2 w.heap.size ((List.replicate n 0).set q m) ∧ Below w.heap.size w w2 ∧ w2.heap.size = w.heap.size + 1 := by
  subst h
  have h1 := hr.set q (by simp; omega) m
  refine ⟨?_, ?_, h1, hb.setCell (Nat.le_refl _) _, by rw [size_set]; exact hz⟩
  · rw [cell_setCell_ne _ _ _ _ (Or.inr (by show q ≠ a; omega))]
    have := hr.1 a (by simp; omega)
    rwa [List.getElem_replicate] at this
  · rw [frozen_setCell]; exact hr.2 a (by simp; omega)

set_option maxRecDepth 100000 in
set_option maxHeartbeats 4000000 in
/-- x << s of one word, s above 0: a new row. -/
theorem lsh1_c (r : Nat) (x : Int) (s : Nat) (w : World) (hr : IRow .u64 w r [x]) (h0 : 0 < x) (h1 : x < 18446744073709551616) (hs : 0 < s) (hs2 : s ≤ 5000) (hrl : r < w.heap.size) :
    Calls Tryz.prog 173 #[.slice (some ⟨r, 0, none⟩) 1 1, .slice (some ⟨r, 0, none⟩) 1 1, .int .u64 s] w fun e w' => ∃ u zs, e = .returned u ∧ Sl .u64 w.heap.size w' u zs ∧ Words zs ∧ Top zs ∧ leN zs = x * 2 ^ s ∧ zs.length ≤ s / 64 + 2 ∧ Below w.heap.size w w' := by
  have s0 : ((s : Int) == 0) = false := beq_eq_false_iff_ne.2 (by omega)
  obtain ⟨q, hq⟩ : ∃ q, s / 64 = q := ⟨_, rfl⟩
  obtain ⟨t, ht⟩ : ∃ t, s % 64 = t := ⟨_, rfl⟩
  have hst : 64 * q + t = s := by omega
  have ht64 : t < 64 := by omega
  have d1 : ((s : Int)).tdiv 64 = (q : Int) := by rw [Int.tdiv_eq_ediv_of_nonneg (by omega)]; omega
  have d2 : ((s : Int)).tmod 64 = (t : Int) := by rw [Int.tmod_eq_emod_of_nonneg (by omega)]; omega
  have d3 : (s : Int) / 64 = (q : Int) := by omega
  have d4 : (s : Int) % 64 = (t : Int) := by omega
  have hx0 : w.cell? ⟨r, 0, none⟩ = some (.int .u64 x) := by simpa using hr.1 0 (by simp)
  obtain ⟨a, ha⟩ : ∃ a, q + 1 = a := ⟨_, rfl⟩
  obtain ⟨n, hn⟩ : ∃ n, a + 1 = n := ⟨_, rfl⟩
  have e1 : (1 : Int) + (q : Int) = (a : Int) := by omega
  have e2 : (a : Int) + 1 = (n : Int) := by omega
  have e3 : (a : Int) - 1 = (q : Int) := by omega
  have e4 : a - q = 1 := by omega
  have e5 : (q : Int) ≤ (a : Int) := by omega
  have e6 : (a : Int) < (n : Int) := by omega
  have e7 : (q : Int) ≤ 100 := by omega
  have e8 : (a : Int) ≤ 100 := by omega
  have HMk := Lib.hid (makeOver_c r n w (by omega) (by omega))
  have HL := Lib.hid (fun (w1 : World) (cc : Nat) (hr1 : IRow .u64 w1 w.heap.size (List.replicate n 0)) (hb1 : Below w.heap.size w w1) (htp : 0 < t) => lshVU_c w.heap.size r q (cc - q) 1 x t w1 (by omega) h1 htp ht64 0 (by have := hr1.1 q (by simp; omega); rwa [List.getElem_replicate] at this) (hr1.2 q (by simp; omega)) ((hb1.cell (p := ⟨r, 0, none⟩) hrl).trans hx0) (by omega))
  have HF : Hid (∀ (w2 : World), IRow .u64 w2 w.heap.size ((List.replicate n 0).set q (x * 2 ^ t % 18446744073709551616)) → IRow .u64 (w2.setCell ⟨w.heap.size, a, none⟩ (.int .u64 (x * 2 ^ t / 18446744073709551616))) w.heap.size (shl1 x q t)) := Lib.hid fun w2 h => by
    have h2 := h.set a (by simp; omega) (x * 2 ^ t / 18446744073709551616)
    have e : ((List.replicate n (0 : Int)).set q (x * 2 ^ t % 18446744073709551616)).set a (x * 2 ^ t / 18446744073709551616) = shl1 x q t := by
      rw [← hn, ← ha]; exact set_two q _ _
    rw [e] at h2; exact h2
  have HE := Lib.hid (And.intro (shl1_num x q t) (And.intro (shl1_words x q t (by omega) h1 (by omega)) (shl1_len x q t)))
  rw [hst] at HE
  have HZ := Lib.hid (shl1_low x q t)
  have HX := Lib.hid (And.intro ha hn)
  have hxlt : x % 18446744073709551616 = x := Int.emod_eq_of_lt (by omega) h1
  have hxdz : x / 18446744073709551616 = 0 := Int.ediv_eq_zero_of_lt (by omega) h1
  have hcn := fun (W : World) (A : Option Addr) (c : Nat) (ty : TypeId) => clear_none W A c ty
  by_cases htz : t = 0
  · subst htz
    have HF0 : Hid (∀ (w2 : World), IRow .u64 w2 w.heap.size ((List.replicate n 0).set q x) → IRow .u64 (w2.setCell ⟨w.heap.size, a, none⟩ (.int .u64 0)) w.heap.size (shl1 x q 0)) := Lib.hid fun w2 h => by
      have h2 := h.set a (by simp; omega) 0
      rw [shl1_zero x q 0 (by omega) h1, ← set_two q x 0, show q + 2 = n from by omega, ha]
      exact h2
    have HX0 := Lib.hid (fun w1 (hb1 : Below w.heap.size w w1) => (hb1.cell (p := ⟨r, 0, none⟩) hrl).trans hx0)
    have tb : (((0 : Nat) : Int) == 0) = true := rfl
    clear HL HF hxlt hxdz hq ht hst ht64 hs h0 h1 hcn
    go_enter Tryz.func173, Tryz.ntmps173
    go_wp2_with (first
      | (go_at_call 161; with_reducible refine HMk.out.mono ?_; rintro e w1 ⟨cc, rfl, hc1, hc2, hr1, hb1, hz1⟩; have HC1 := Lib.hid (And.intro hc1 hc2); have hca : (a : Int) ≤ (cc : Int) := (by omega); have hcq : ¬ cc = q := (by have := HX.out; omega); have HR1 := Lib.hid hr1; have HB1 := Lib.hid hb1; have HZ1 := Lib.hid hz1; clear hr1 hb1 hz1 hc1 hc2; obtain ⟨w2, hcp, hw2⟩ := copy_one w1 w.heap.size q (cc - q) r x _ (by rw [List.length_replicate]; have := HX.out; omega) HR1.out (HX0.out _ HB1.out); obtain ⟨ca, fa, hr2, hb2, hz2⟩ := after_shift HR1.out HB1.out HZ1.out HX.out.1 HX.out.2 hw2; obtain ⟨w3, hcl, hr3, hb3, hs3⟩ := clear_any _ w.heap.size q cc _ (by rw [HE.out.2.2]; omega) HZ.out (HF0.out _ hr2); have HR3 := Lib.hid (And.intro hr3 (And.intro (hb3 _ _ (Nat.le_refl _) (hb2.setCell (p := ⟨w.heap.size, a, none⟩) (Nat.le_refl _) _)) (hs3.trans ((size_set _ _ _).trans hz2)))); clear hr2 hb2 hw2 hr3 hb3 hs3 hz2)
      | (go_at_call 166; with_reducible refine (norm_own _ n _ _ _ (by rw [HE.out.2.2]; have := HX.out; omega) HC1.out.1 (by have := HC1.out.2; omega) HR3.out.1 (by rw [HR3.out.2.2]; exact Nat.lt_succ_self _) HE.out.2.1).mono ?_; rintro e w4 ⟨rfl, i, zs, rfl, y1, y2, y3, y4, y5, y6⟩; have Y := Lib.hid (And.intro y1 (And.intro y2 (And.intro y3 (And.intro y4 (And.intro y5 y6))))); clear y1 y2 y3 y4 y5 y6))
    go_ret
    obtain ⟨y1, y2, y3, y4, y5, y6⟩ := Y.out
    exact ⟨_, zs, rfl, y1, y2, y3, y4.trans HE.out.1, by have := HX.out; omega, HR3.out.2.1⟩
  · have tb : ((t : Int) == 0) = false := beq_eq_false_iff_ne.2 (by omega)
    have HLt := Lib.hid (fun w1 cc hr1 hb1 => HL.out w1 cc hr1 hb1 (by omega))
    generalize x * 2 ^ t % 18446744073709551616 = m at HLt HF
    generalize x * 2 ^ t / 18446744073709551616 = k at HLt HF
    clear HL hxlt hxdz htz hq ht hst ht64 hs h0 h1
    go_enter Tryz.func173, Tryz.ntmps173
    go_wp2_with (first
      | (go_at_call 161; with_reducible refine HMk.out.mono ?_; rintro e w1 ⟨cc, rfl, hc1, hc2, hr1, hb1, hz1⟩; have HC1 := Lib.hid (And.intro hc1 hc2); have hca : (a : Int) ≤ (cc : Int) := (by omega); have hcq : ¬ cc = q := (by have := HX.out; omega); have HR1 := Lib.hid hr1; have HB1 := Lib.hid hb1; have HZ1 := Lib.hid hz1; clear hr1 hb1 hz1 hc1 hc2)
      | (go_at_call 196; with_reducible refine (HLt.out _ cc HR1.out HB1.out).mono ?_; rintro e w2 ⟨rfl, hw2⟩; obtain ⟨ca, fa, hr2, hb2, hz2⟩ := after_shift HR1.out HB1.out HZ1.out HX.out.1 HX.out.2 hw2; obtain ⟨w3, hcl, hr3, hb3, hs3⟩ := clear_any _ w.heap.size q cc _ (by rw [HE.out.2.2]; omega) HZ.out (HF.out _ hr2); have HR3 := Lib.hid (And.intro hr3 (And.intro (hb3 _ _ (Nat.le_refl _) (hb2.setCell (p := ⟨w.heap.size, a, none⟩) (Nat.le_refl _) _)) (hs3.trans ((size_set _ _ _).trans hz2)))); clear hr2 hb2 hw2 hr3 hb3 hs3 hz2)
      | (go_at_call 166; with_reducible refine (norm_own _ n _ _ _ (by rw [HE.out.2.2]; have := HX.out; omega) HC1.out.1 (by have := HC1.out.2; omega) HR3.out.1 (by rw [HR3.out.2.2]; exact Nat.lt_succ_self _) HE.out.2.1).mono ?_; rintro e w4 ⟨rfl, i, zs, rfl, y1, y2, y3, y4, y5, y6⟩; have Y := Lib.hid (And.intro y1 (And.intro y2 (And.intro y3 (And.intro y4 (And.intro y5 y6))))); clear y1 y2 y3 y4 y5 y6))
    go_ret
    obtain ⟨y1, y2, y3, y4, y5, y6⟩ := Y.out
    exact ⟨_, zs, rfl, y1, y2, y3, y4.trans HE.out.1, by have := HX.out; omega, HR3.out.2.1⟩
end Go.Proofs.YtkplnbjgkhmbcaaGreatDoor
