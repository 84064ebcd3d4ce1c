/- Int.Lsh of one word in place; Rat.norm; Rat.SetFloat64. -/
import Derived.Test.YtkplnbjgkhmbcaaGreatDoorM18
import Derived.Test.YtkplnbjgkhmbcaaGreatDoorM17
import Derived.Defers
namespace Go.Proofs.YtkplnbjgkhmbcaaGreatDoor
open Go.RowKit Go.Shelf Go.Proofs.YtkplnbjgkhmbcaaGreatDoorW.PrintWords Go.Proofs.YtkplnbjgkhmbcaaGreatDoorW.PrintLast Go.Proofs.YtkplnbjgkhmbcaaGreatDoorW.PrintMore
set_option linter.unusedVariables false
set_option linter.unusedSimpArgs false

/-- What z.Lsh(&z, s) leaves, z one word. -/
def Shifted (w : World) (g o : Nat) (b : Bool) (x : Int) (s : Nat) (e : Ending) (w' : World) : Prop :=
  e = .returned (.pointer (some ⟨g, o, none⟩)) ∧ ∃ W u zs, w' = (W.setCell ⟨g, o + 1, none⟩ u).setCell ⟨g, o, none⟩ (.bool b) ∧ Sl .u64 w.heap.size W u zs ∧ Words zs ∧ Top zs ∧ leN zs = x * 2 ^ s ∧ zs.length ≤ s / 64 + 2 ∧ Below w.heap.size w W
set_option maxRecDepth 100000 in
theorem intLsh_c (g o r : Nat) (b : Bool) (x : Int) (s : Nat) (w : World) (hr : IRow .u64 w r [x]) (h0 : 0 < x) (h1 : x < 18446744073709551616) (hs : 0 < s) (hs2 : s ≤ 5000) (hrl : r < w.heap.size)
    (c0 : w.cell? ⟨g, o, none⟩ = some (.bool b)) (c1 : w.cell? ⟨g, o + 1, none⟩ = some (.slice (some ⟨r, 0, none⟩) 1 1)) (f0 : w.frozen? ⟨g, o, none⟩ = false) (f1 : w.frozen? ⟨g, o + 1, none⟩ = false) :
    Calls Tryz.prog 140 #[.pointer (some ⟨g, o, none⟩), .pointer (some ⟨g, o, none⟩), .int .u64 s] w (Shifted w g o b x s) := by
  have HC := Lib.hid (fun w' (hb : Below w.heap.size w w') => lsh1_c r x s w' (hr.below hb hrl) h0 h1 hs hs2 (Nat.lt_of_lt_of_le hrl hb.size))
  have hlt := lt_of_cell c0
  have HB0 : Hid (Below w.heap.size w w.drew) := (Below.refl _ _).drew
  clear hr h0 h1 hs
  go_enter Tryz.func140, Tryz.ntmps140
  go_wp2
  go_region_with (go_at_call 173; refine (HC.out _ HB0.out).mono ?_; rintro e w1 ⟨u, zs, rfl, g1, g2, g3, g4, g5, g6⟩; obtain ⟨A1, k1, rfl, _⟩ := g1.c; have hb1 := HB0.out.trans g6; have HG := Lib.hid (And.intro g1 (And.intro g2 (And.intro g3 (And.intro g4 (And.intro g5 hb1))))); have q0 := (hb1.cell (p := ⟨g, o, none⟩) hlt).trans c0; have q1 := (hb1.cell (p := ⟨g, o + 1, none⟩) hlt).trans c1; have r0 := (hb1.frozen (p := ⟨g, o, none⟩) hlt).trans f0; have r1 := (hb1.frozen (p := ⟨g, o + 1, none⟩) hlt).trans f1; clear g1 g2 g3 g4 g5 g6 hb1)
  all_goals go_wp2
  all_goals go_ret
  all_goals exact ⟨rfl, w1, _, zs, rfl, HG.out⟩
set_option maxRecDepth 100000 in
theorem intLsh0_c (g o r : Nat) (b : Bool) (x : Int) (w : World) (hr : IRow .u64 w r [x]) (h0 : 0 < x) (h1 : x < 18446744073709551616) (hrl : r < w.heap.size) (hgr : g ≠ r)
    (c0 : w.cell? ⟨g, o, none⟩ = some (.bool b)) (c1 : w.cell? ⟨g, o + 1, none⟩ = some (.slice (some ⟨r, 0, none⟩) 1 1)) (f0 : w.frozen? ⟨g, o, none⟩ = false) (f1 : w.frozen? ⟨g, o + 1, none⟩ = false) :
    Calls Tryz.prog 140 #[.pointer (some ⟨g, o, none⟩), .pointer (some ⟨g, o, none⟩), .int .u64 0] w fun e w' => e = .returned (.pointer (some ⟨g, o, none⟩)) ∧ ∃ n, w' = (((w.drewN n).setCell ⟨g, o + 1, none⟩ (.slice (some ⟨r, 0, none⟩) 1 1)).setCell ⟨g, o, none⟩ (.bool b)) := by
  have HC := Lib.hid (fun w' => lsh0_c r w')
  clear hr h0 h1
  go_enter Tryz.func140, Tryz.ntmps140
  go_wp2
  go_region_with (go_at_call 173; refine (HC.out _).mono ?_; rintro e w1 ⟨rfl, k, rfl⟩)
  all_goals go_wp2
  all_goals go_ret
  all_goals exact ⟨rfl, _, rfl⟩

/-- A big.Rat: a numerator and a denominator. -/
structure RT (w : World) (g : Nat) (na : Bool) (va : Value) (xs : List Int) (vb : Value) (ys : List Int) : Prop where
  blk : w.heap[g]? = some (.cells #[.bool na, va, .bool false, vb] 198 (0, 0))
  sa : Sl .u64 (g + 1) w va xs
  sb : Sl .u64 (g + 1) w vb ys
  wa : Words xs
  ta : Top xs
  wb : Words ys
  tb : Top ys
section
variable {w w' : World} {g : Nat} {na : Bool} {va vb : Value} {xs ys : List Int}
theorem RT.below (h : RT w g na va xs vb ys) (hb : Below w.heap.size w w') : RT w' g na va xs vb ys :=
  ⟨blk_below h.blk hb, h.sa.below hb, h.sb.below hb, h.wa, h.ta, h.wb, h.tb⟩
theorem RT.drewN (h : RT w g na va xs vb ys) (n : Nat) : RT (w.drewN n) g na va xs vb ys := ⟨h.blk, h.sa, h.sb, h.wa, h.ta, h.wb, h.tb⟩
theorem RT.pa (h : RT w g na va xs vb ys) : PI w g 0 na va xs := ⟨⟨_, _, h.blk, rfl, rfl⟩, h.sa.mono (Nat.zero_le _), h.wa, h.ta⟩
theorem RT.pb (h : RT w g na va xs vb ys) : PI w g 2 false vb ys := ⟨⟨_, _, h.blk, rfl, rfl⟩, h.sb.mono (Nat.zero_le _), h.wb, h.tb⟩
theorem RT.put0 (h : RT w g na va xs vb ys) (b : Bool) : RT (w.setCell ⟨g, 0, none⟩ (.bool b)) g b va xs vb ys :=
  ⟨blk_put h.blk 0 _ rfl, h.sa.setCell (p := ⟨g, 0, none⟩) _ (by show g < g + 1; omega), h.sb.setCell (p := ⟨g, 0, none⟩) _ (by show g < g + 1; omega), h.wa, h.ta, h.wb, h.tb⟩
theorem RT.put2 (h : RT w g na va xs vb ys) : RT (w.setCell ⟨g, 2, none⟩ (.bool false)) g na va xs vb ys :=
  ⟨blk_put h.blk 2 _ rfl, h.sa.setCell (p := ⟨g, 2, none⟩) _ (by show g < g + 1; omega), h.sb.setCell (p := ⟨g, 2, none⟩) _ (by show g < g + 1; omega), h.wa, h.ta, h.wb, h.tb⟩
end

set_option maxRecDepth 100000 in
theorem getStack_c (w : World) : Calls Tryz.prog 101 #[] w fun e w' => e = .returned (.pointer (some ⟨w.heap.size, 0, none⟩)) ∧ w'.cell? ⟨w.heap.size, 0, none⟩ = some (.pointer none) ∧ Below w.heap.size w w' ∧ w.heap.size < w'.heap.size := by
  go_enter Tryz.func101, Tryz.ntmps101
  go_wp2
  go_ret
  exact ⟨rfl, blk_cell (blk_new _ _) 0 _ rfl, (Below.refl _ _).alloc (Nat.le_refl _) _, by simp⟩
set_option maxRecDepth 100000 in
theorem free_deferred (a : Nat) (u : FrameMode) (w : World) (h : w.cell? ⟨a, 0, none⟩ = some (.pointer none)) : CallsD Tryz.prog 102 #[.pointer (some ⟨a, 0, none⟩)] u w fun e u' w' => u' = u ∧ (e = .returned (.tuple #[]) ∧ w' = w) := by
  go_enter_d Tryz.func102, Tryz.ntmps102
  go_wp2
  go_end0
  exact ⟨rfl, rfl⟩
end Go.Proofs.YtkplnbjgkhmbcaaGreatDoor
