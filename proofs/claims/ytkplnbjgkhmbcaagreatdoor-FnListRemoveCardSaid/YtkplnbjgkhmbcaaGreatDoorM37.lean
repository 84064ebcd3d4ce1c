/- spec: Same, SameList on Vals without kids. -/
import Derived.Test.YtkplnbjgkhmbcaaGreatDoorM08
import Derived.Test.YtkplnbjgkhmbcaaGreatDoorM32
import Derived.LoopTactic
import Derived.Deep.RegionHeld3
namespace Go.Proofs.YtkplnbjgkhmbcaaGreatDoor
open Go.RowKit Go.Shelf Go.Proofs.YtkplnbjgkhmbcaaGreatDoorW.PrintWords Go.Proofs.YtkplnbjgkhmbcaaGreatDoorW.PrintLast Go.Proofs.YtkplnbjgkhmbcaaGreatDoorW.PrintMore Go.Proofs.YtkplnbjgkhmbcaaGreatDoor.PFnCompare Go.Proofs.YtkplnbjgkhmbcaaGreatDoor.PCmp Go.Proofs.YtkplnbjgkhmbcaaGreatDoor.PbytesOf Go.Proofs.YtkplnbjgkhmbcaaGreatDoor.Pcmp
set_option linter.unusedVariables false
set_option linter.unusedSimpArgs false

set_option maxRecDepth 100000 in
theorem specNil_c (A B : Option Addr) (c d : Nat) (w : World) : Calls Tryz.prog 45 #[.slice A 0 c, .slice B 0 d] w fun e w' => e = .returned (.bool true) ∧ w' = w := by
  go_enter Tryz.func45, Tryz.ntmps45
  go_wp2_with fail
  go_loopw [5] (fun i wr => i = .int .i64 0 ∧ wr = w) (fun _ _ => 0)
  case atStart => exact ⟨rfl, rfl⟩
  case round =>
    obtain ⟨rfl, rfl⟩ := hrel
    go_wp2
    go_ret
    exact ⟨rfl, rfl⟩

set_option maxRecDepth 100000 in
set_option maxHeartbeats 4000000 in
theorem specSameInt_c (n : Bool) (l m : List Int) (b b' : Int) (t : ByteArray) (v1 v2 : Value) (w : World) (h1 : VR w v1 ⟨2, n, l, b, t, []⟩) (h2 : VR w v2 ⟨2, n, m, b', t, []⟩) (g1 : Good n l) (g2 : Good n m) (hl : m.length = l.length) (hv : val n l = val n m) : Calls Tryz.prog 18 #[v1, v2] w fun e w' => e = .returned (.bool true) ∧ Below w.heap.size w w' := by
  have H1 := Lib.hid h1
  have H2 := Lib.hid h2
  obtain ⟨A2, c2, A5, c5, rfl, _⟩ := h1.open
  obtain ⟨B2, d2, B5, d5, rfl, _⟩ := h2.open
  clear h1 h2
  have HN1 : Hid (∀ W, Below w.heap.size w W → Calls Tryz.prog 41 #[.agg #[.int .i64 2, .bool n, .slice A2 l.length c2, .int .u64 b, .string t, .slice A5 0 c5]] W fun e W' => ∃ A c, e = .returned (.agg #[.bool n, .slice A l.length c]) ∧ Sl .u8 W.heap.size W' (.slice A l.length c) l ∧ Below W.heap.size W W') := Lib.hid fun W hW => num_c _ ⟨2, n, l, b, t, []⟩ W (H1.out.below hW) g1
  have HN2 : Hid (∀ W, Below w.heap.size w W → Calls Tryz.prog 41 #[.agg #[.int .i64 2, .bool n, .slice B2 m.length d2, .int .u64 b', .string t, .slice B5 0 d5]] W fun e W' => ∃ A c, e = .returned (.agg #[.bool n, .slice A m.length c]) ∧ Sl .u8 W.heap.size W' (.slice A m.length c) m ∧ Below W.heap.size W W') := Lib.hid fun W hW => num_c _ ⟨2, n, m, b', t, []⟩ W (H2.out.below hW) g2
  have HC : Hid (∀ W P p Q q, Sl .u8 0 W (.slice P l.length p) l → Sl .u8 0 W (.slice Q m.length q) m → Calls Tryz.prog 42 #[.agg #[.bool n, .slice P l.length p], .agg #[.bool n, .slice Q m.length q]] W fun e W' => e = .returned (.int .i64 0) ∧ Below W.heap.size W W') := Lib.hid fun W P p Q q k1 k2 => by
    have := cmp_c 0 0 _ _ n n l m W ⟨_, rfl, k1⟩ ⟨_, rfl, k2⟩ g1 g2
    rw [hv, Int.sub_self] at this
    exact this
  rw [hl] at HN2 HC
  have HB : Hid (Below w.heap.size w ((w.alloc (.cells #[.int .i64 2, .bool n, .slice A2 l.length c2, .int .u64 b, .string t, .slice A5 0 c5] 26)).alloc (.cells #[.int .i64 2, .bool n, .slice B2 l.length d2, .int .u64 b', .string t, .slice B5 0 d5] 26))) := Lib.hid (((Below.refl _ w).alloc (Nat.le_refl _) _).alloc (by simp) _)
  have HK : Hid (∀ W, Below (w.heap.size + 2) ((w.alloc (.cells #[.int .i64 2, .bool n, .slice A2 l.length c2, .int .u64 b, .string t, .slice A5 0 c5] 26)).alloc (.cells #[.int .i64 2, .bool n, .slice B2 l.length d2, .int .u64 b', .string t, .slice B5 0 d5] 26)) W → W.heap[w.heap.size]? = some (.cells #[.int .i64 2, .bool n, .slice A2 l.length c2, .int .u64 b, .string t, .slice A5 0 c5] 26 (0, 0)) ∧ W.heap[w.heap.size + 1]? = some (.cells #[.int .i64 2, .bool n, .slice B2 l.length d2, .int .u64 b', .string t, .slice B5 0 d5] 26 (0, 0))) := Lib.hid fun W hW => ⟨(hW.block _ (by omega)).trans (blk_alloc (blk_new _ _) _), (hW.block _ (by omega)).trans (by simpa using blk_new (w.alloc (.cells #[.int .i64 2, .bool n, .slice A2 l.length c2, .int .u64 b, .string t, .slice A5 0 c5] 26)) _)⟩
  have HS : Hid (((w.alloc (.cells #[.int .i64 2, .bool n, .slice A2 l.length c2, .int .u64 b, .string t, .slice A5 0 c5] 26)).alloc (.cells #[.int .i64 2, .bool n, .slice B2 l.length d2, .int .u64 b', .string t, .slice B5 0 d5] 26)).heap.size = w.heap.size + 2) := Lib.hid (by simp)
  obtain ⟨W, hW⟩ : ∃ W, W = (w.alloc (.cells #[.int .i64 2, .bool n, .slice A2 l.length c2, .int .u64 b, .string t, .slice A5 0 c5] 26)).alloc (.cells #[.int .i64 2, .bool n, .slice B2 l.length d2, .int .u64 b', .string t, .slice B5 0 d5] 26) := ⟨_, rfl⟩
  rw [← hW] at HB HK HS
  have HBW := Lib.hid (Below.refl (w.heap.size + 2) W)
  clear g1 g2 hv
  go_enter Tryz.func18, Tryz.ntmps18
  go_upto_region 5 with fail
  rw [← hW]
  clear hW
  have z1 := cells6 (HK.out _ HBW.out).1
  have z2 := cells6 (HK.out _ HBW.out).2
  have hq : (l.length : Int) == (l.length : Int) := by simp
  go_region_held3 (fun W => (W.cell? ⟨w.heap.size, 0, none⟩ = some (.int .i64 2) ∧ W.cell? ⟨w.heap.size, 1, none⟩ = some (.bool n) ∧ W.cell? ⟨w.heap.size, 2, none⟩ = some (.slice A2 l.length c2) ∧ W.cell? ⟨w.heap.size, 3, none⟩ = some (.int .u64 b) ∧ W.cell? ⟨w.heap.size, 4, none⟩ = some (.string t) ∧ W.cell? ⟨w.heap.size, 5, none⟩ = some (.slice A5 0 c5)) ∧ (W.cell? ⟨w.heap.size + 1, 0, none⟩ = some (.int .i64 2) ∧ W.cell? ⟨w.heap.size + 1, 1, none⟩ = some (.bool n) ∧ W.cell? ⟨w.heap.size + 1, 2, none⟩ = some (.slice B2 l.length d2) ∧ W.cell? ⟨w.heap.size + 1, 3, none⟩ = some (.int .u64 b') ∧ W.cell? ⟨w.heap.size + 1, 4, none⟩ = some (.string t) ∧ W.cell? ⟨w.heap.size + 1, 5, none⟩ = some (.slice B5 0 d5))) (first | (with_reducible exact ⟨r1, r2⟩) | (with_reducible exact ⟨q1, q2⟩) | (with_reducible exact ⟨y1, y2⟩) | (with_reducible exact ⟨z1, z2⟩) | exact ⟨z1, z2⟩) (first
    | (go_at_call 41; (with_reducible refine (HN1.out _ (by first | (with_reducible exact HB.out) | (with_reducible exact HB.out.drew))).mono ?_); rintro e w1 ⟨P1, p1, rfl, hs1, hb1⟩; have HS1 := Lib.hid (hs1.mono (Nat.zero_le _)); have HB1 : Hid (Below w.heap.size w w1 ∧ Below (w.heap.size + 2) W w1) := Lib.hid ⟨HB.out.drew.trans (hb1.mono HB.out.size), HBW.out.drew.trans (hb1.mono (by rw [← HS.out]; exact HBW.out.size))⟩; have y1 := cells6 (HK.out _ HB1.out.2).1; have y2 := cells6 (HK.out _ HB1.out.2).2; clear hs1 hb1)
    | (go_at_call 41; (with_reducible refine (HN2.out _ HB1.out.1).mono ?_); rintro e w2 ⟨P2, p2, rfl, hs2, hb2⟩; have HS2 := Lib.hid (hs2.mono (Nat.zero_le _)); have HS3 : Hid (Sl .u8 0 w2 (.slice P1 l.length p1) l) := Lib.hid (HS1.out.below hb2); have HB2 : Hid (Below w.heap.size w w2 ∧ Below (w.heap.size + 2) W w2) := Lib.hid ⟨HB1.out.1.trans (hb2.mono HB1.out.1.size), HB1.out.2.trans (hb2.mono (by rw [← HS.out]; exact HB1.out.2.size))⟩; have q1 := cells6 (HK.out _ HB2.out.2).1; have q2 := cells6 (HK.out _ HB2.out.2).2; clear hs2 hb2)
    | (go_at_call 42; (with_reducible refine (HC.out _ _ _ _ _ HS3.out HS2.out).mono ?_); rintro e w3 ⟨rfl, hb3⟩; have HB3 : Hid (Below w.heap.size w w3 ∧ Below (w.heap.size + 2) W w3) := Lib.hid ⟨HB2.out.1.trans (hb3.mono HB2.out.1.size), HB2.out.2.trans (hb3.mono (by rw [← HS.out]; exact HB2.out.2.size))⟩; have r1 := cells6 (HK.out _ HB3.out.2).1; have r2 := cells6 (HK.out _ HB3.out.2).2; clear hb3))
  all_goals go_wp2
  all_goals go_ret
  all_goals exact ⟨rfl, HB3.out.1⟩
set_option maxRecDepth 100000 in
theorem specSame_c (x y : VT) (v1 v2 : Value) (w : World) (h1 : VR w v1 x) (h2 : VR w v2 y) (ha : Alike x y) : Calls Tryz.prog 18 #[v1, v2] w fun e w' => e = .returned (.bool true) ∧ Below w.heap.size w w' := by
  obtain ⟨e0, ekx, eky, e4, eb, ei⟩ := ha
  obtain ⟨a0, a1, a2, a3, a4, a5⟩ := x
  obtain ⟨b0, b1, b2, b3, b4, b5⟩ := y
  dsimp only at e0 ekx eky e4 eb ei
  subst e0 ekx eky e4
  by_cases k2 : a0 = 2
  · subst k2
    obtain ⟨g1, g2, rfl, hl, hv⟩ := ei rfl
    exact specSameInt_c _ _ _ _ _ _ _ _ _ h1 h2 g1 g2 hl.symm hv
  · obtain ⟨A2, c2, A5, c5, rfl, _⟩ := h1.open
    obtain ⟨B2, d2, B5, d5, rfl, _⟩ := h2.open
    clear h1 h2 ei
    have ex : (a0 == 2) = false := by simp [k2]
    by_cases k3 : a0 = 3
    · have ey : (a0 == 3) = true := by rw [k3]; rfl
      obtain rfl := eb (Or.inr k3)
      clear k2 k3 eb
      go_enter Tryz.func18, Tryz.ntmps18
      go_wp2
      go_ret
      exact ⟨rfl, ((Below.refl _ w).alloc (Nat.le_refl _) _).alloc (by simp) _⟩
    · have ey : (a0 == 3) = false := by simp [k3]
      by_cases k1 : a0 = 1
      · have ez : (a0 == 1) = true := by rw [k1]; rfl
        obtain rfl := eb (Or.inl k1)
        clear k1 k2 k3 eb
        go_enter Tryz.func18, Tryz.ntmps18
        go_wp2
        go_ret
        exact ⟨rfl, ((Below.refl _ w).alloc (Nat.le_refl _) _).alloc (by simp) _⟩
      · have ez : (a0 == 1) = false := by simp [k1]
        clear k1 k2 k3 eb
        go_enter Tryz.func18, Tryz.ntmps18
        go_wp2_with (go_at_call 45; (with_reducible refine (specNil_c _ _ _ _ _).mono ?_); rintro e w1 ⟨rfl, hw1⟩; have hw2 := hw1.symm; clear hw1; subst hw2)
        go_ret
        exact ⟨rfl, ((Below.refl _ w).alloc (Nat.le_refl _) _).alloc (by simp) _⟩
end Go.Proofs.YtkplnbjgkhmbcaaGreatDoor
