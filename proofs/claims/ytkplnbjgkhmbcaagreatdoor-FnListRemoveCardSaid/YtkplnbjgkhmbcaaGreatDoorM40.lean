/- laws.FnListRemove: the walk. · A Val, and a row of Vals, that came in as arguments: their cells. -/
import Derived.Test.YtkplnbjgkhmbcaaGreatDoorM39
import Derived.Deep.Slices
import Derived.ChangeSame
import Derived.ChangeSlices
import Derived.OpenShut
namespace Go.Proofs.YtkplnbjgkhmbcaaGreatDoor
open Go.RowKit Go.Shelf Go.Proofs.YtkplnbjgkhmbcaaGreatDoorW.PrintWords Go.Proofs.YtkplnbjgkhmbcaaGreatDoorW.PrintLast Go.Proofs.YtkplnbjgkhmbcaaGreatDoorW.PrintMore Go.Proofs.YtkplnbjgkhmbcaaGreatDoor.PFnCompare Go.Proofs.YtkplnbjgkhmbcaaGreatDoor.PCmp Go.Proofs.YtkplnbjgkhmbcaaGreatDoor.PbytesOf Go.Proofs.YtkplnbjgkhmbcaaGreatDoor.Pcmp
set_option linter.unusedVariables false
set_option linter.unusedSimpArgs false

def ABool (e : Ending) : Prop := ∃ r : Bool, e = .returned (.bool r)
set_option maxRecDepth 100000 in
theorem fits_c (k b : Int) (n : Bool) (t : ByteArray) (A2 A5 : Option Addr) (m c2 n5 c5 : Nat) (w : World) : Calls Tryz.prog 8 #[.agg #[.int .i64 k, .bool n, .slice A2 m c2, .int .u64 b, .string t, .slice A5 n5 c5]] w fun e w' => ABool e ∧ Below w.heap.size w w' := by
  have HB : Hid (Below w.heap.size w (w.alloc (.cells #[.int .i64 k, .bool n, .slice A2 m c2, .int .u64 b, .string t, .slice A5 n5 c5] 26))) := Lib.hid ((Below.refl _ w).alloc (Nat.le_refl _) _)
  by_cases h1 : (2147483647 : Int) < m
  · go_enter Tryz.func8, Tryz.ntmps8
    go_wp2
    go_ret
    exact ⟨⟨_, rfl⟩, HB.out⟩
  · by_cases h2 : (2147483647 : Int) < t.size
    · go_enter Tryz.func8, Tryz.ntmps8
      go_wp2
      go_ret
      exact ⟨⟨_, rfl⟩, HB.out⟩
    · by_cases h3 : (2147483647 : Int) < n5
      · go_enter Tryz.func8, Tryz.ntmps8
        go_wp2
        go_ret
        exact ⟨⟨_, rfl⟩, HB.out⟩
      · go_enter Tryz.func8, Tryz.ntmps8
        go_wp2
        go_ret
        exact ⟨⟨_, rfl⟩, HB.out⟩

/-- What stands behind the cleaning. -/
structure Clean2 (w : World) (u : Value) (ss : List Sca) (ys : List VT) (t : Sca) (y : VT) (P2 P5 : Option Addr) (p2 p5 : Nat) (W : World) : Prop where
  row : ∃ A' c', u = .slice A' ys.length c' ∧ kV.C W A' ys.length ys
  val : VR W (.agg #[.int .i64 y.f0, .bool y.f1, .slice P2 y.f2.length p2, .int .u64 y.f3, .string y.f4, .slice P5 y.f5.length p5]) y
  blk : W.heap[w.heap.size]? = some (.cells #[.int .i64 y.f0, .bool y.f1, .slice P2 y.f2.length p2, .int .u64 y.f3, .string y.f4, .slice P5 y.f5.length p5] 26 (0, 0))
  low : Below w.heap.size w W
theorem clean2 {w w1 w2 : World} {B : Nat} {u : Value} {ss : List Sca} {ys : List VT} {t : Sca} {y : VT} {P2 P5 : Option Addr} {p2 p5 : Nat} {a b c d e f : Value} (hm : MR w1 B u ys) (hB : w.heap.size < B) (hb : Below w1.heap.size w1 w2) (hM : kV.M w2 w1.heap.size (fun _ => True) y [.int .i64 y.f0, .bool y.f1, .slice P2 y.f2.length p2, .int .u64 y.f3, .string y.f4, .slice P5 y.f5.length p5]) (hw : w.heap.size < w1.heap.size)
    (hk : w2.heap[w.heap.size]? = some (.cells #[a, b, c, d, e, f] 26 (0, 0))) (hl : Below w.heap.size w w2) :
    Clean2 w u ss ys t y P2 P5 p2 p5 ((((((w2.setCell ⟨w.heap.size, 0, none⟩ (.int .i64 y.f0)).setCell ⟨w.heap.size, 1, none⟩ (.bool y.f1)).setCell ⟨w.heap.size, 2, none⟩ (.slice P2 y.f2.length p2)).setCell ⟨w.heap.size, 3, none⟩ (.int .u64 y.f3)).setCell ⟨w.heap.size, 4, none⟩ (.string y.f4)).setCell ⟨w.heap.size, 5, none⟩ (.slice P5 y.f5.length p5)) := by
  have hR : kV.R 26 w2 B (fun k => B ≤ k) u ys := Kd.R_mono (Kd.R_bound (Kd.R_below hm hb)) (fun k hk => hk.2.1)
  have hne : ∀ k, B ≤ k → k ≠ w.heap.size := fun k hk => by omega
  have hR6 := Kd.R_far (p := ⟨w.heap.size, 5, none⟩) (Kd.R_far (p := ⟨w.heap.size, 4, none⟩) (Kd.R_far (p := ⟨w.heap.size, 3, none⟩) (Kd.R_far (p := ⟨w.heap.size, 2, none⟩) (Kd.R_far (p := ⟨w.heap.size, 1, none⟩) (Kd.R_far (p := ⟨w.heap.size, 0, none⟩) hR hne (.int .i64 y.f0)) hne (.bool y.f1)) hne (.slice P2 y.f2.length p2)) hne (.int .u64 y.f3)) hne (.string y.f4)) hne (.slice P5 y.f5.length p5)
  have hM1 := Kd.M_mono _ (fun k hk => hk.2.1) (Kd.M_bound _ hM)
  have hne2 : ∀ k, w1.heap.size ≤ k → k ≠ w.heap.size := fun k hk => by omega
  have hM6 := Kd.M_far (p := ⟨w.heap.size, 5, none⟩) (Kd.M_far (p := ⟨w.heap.size, 4, none⟩) (Kd.M_far (p := ⟨w.heap.size, 3, none⟩) (Kd.M_far (p := ⟨w.heap.size, 2, none⟩) (Kd.M_far (p := ⟨w.heap.size, 1, none⟩) (Kd.M_far (p := ⟨w.heap.size, 0, none⟩) hM1 hne2 (.int .i64 y.f0)) hne2 (.bool y.f1)) hne2 (.slice P2 y.f2.length p2)) hne2 (.int .u64 y.f3)) hne2 (.string y.f4)) hne2 (.slice P5 y.f5.length p5)
  have hle := Nat.le_refl w.heap.size
  obtain ⟨A', c', e', _, hC⟩ := Kd.R_reads hR6
  exact ⟨⟨A', c', e', hC⟩, ⟨_, rfl, kV.K_of_M hM6⟩, blk_put (blk_put (blk_put (blk_put (blk_put (blk_put hk 0 _ rfl) 1 _ rfl) 2 _ rfl) 3 _ rfl) 4 _ rfl) 5 _ rfl, below_set6 hl w.heap.size hle _ _ _ _ _ _⟩
/-- What listDoes says of what ListRemove answers. -/
theorem rem_does {w w' : World} {ss : List Sca} {t : Sca} {e : Ending} {A : Option Addr} {c : Nat} {xs : List VT} {y : VT} {P2 P5 : Option Addr} {p2 p5 : Nat} (h : RemR w ss t e w') (hx : kV.C w A xs.length xs) (hy : VR w (.agg #[.int .i64 y.f0, .bool y.f1, .slice P2 y.f2.length p2, .int .u64 y.f3, .string y.f4, .slice P5 y.f5.length p5]) y) (hc : CanonL ss xs) (ht : Canon t y) (hn : xs.length ≤ 12) :
    ∃ O n m r, e = .returned (.tuple #[.slice O n m, .bool r, .bool true]) ∧ Below w.heap.size w w' ∧ Hid (∀ W b, Below w'.heap.size w' W → W.heap[b]? = some (.cells #[.int .i64 y.f0, .bool y.f1, .slice P2 y.f2.length p2, .int .u64 y.f3, .string y.f4, .slice P5 y.f5.length p5] 26 (0, 0)) → Calls Tryz.prog 21 #[.slice A xs.length c, .string ⟨#[114, 101, 109, 111, 118, 101]⟩, .slice (some ⟨b, 0, none⟩) 1 1, .slice O n m, .bool r] W fun e W' => e = .returned (.bool true) ∧ Below W.heap.size W W') := by
  obtain ⟨hb, h⟩ := h
  rcases h with ⟨hall, rfl⟩ | ⟨j, M, ys, hj, rfl, hcy, hys⟩
  · exact ⟨none, 0, 0, false, rfl, hb, Lib.hid fun W b hW hk => doesNone_c A c xs ss y t b P2 P5 p2 p5 W (Kd.C_below (Kd.C_below hx hb) hW) hk ((hy.below hb).below hW) hc ht hn hall⟩
  · exact ⟨some ⟨M, 0, none⟩, ys.length, ys.length, true, rfl, hb, Lib.hid fun W b hW hk => doesAt_c A c xs ys ss y t b j P2 P5 (some ⟨M, 0, none⟩) p2 p5 ys.length W (Kd.C_below (Kd.C_below hx hb) hW) hk ((hy.below hb).below hW) hc ht hn hj (Kd.C_below hys hW) hcy⟩

theorem rrow_below {w w' : World} {A : Option Addr} {xs : List VT} (h : RRow w A xs) (hb : Below w.heap.size w w') : RRow w' A xs := fun i hi => by
  obtain ⟨b, o, A2, c2, A5, n5, c5, e, hlt, k0, k1, k2, k3, k4, k5, hv⟩ := h i hi
  exact ⟨b, o, A2, c2, A5, n5, c5, e, Nat.lt_of_lt_of_le hlt hb.size, (hb.cell (p := ⟨b, o + i * 6, none⟩) hlt).trans k0, (hb.cell (p := ⟨b, o + i * 6 + 1, none⟩) hlt).trans k1, (hb.cell (p := ⟨b, o + i * 6 + 2, none⟩) hlt).trans k2, (hb.cell (p := ⟨b, o + i * 6 + 3, none⟩) hlt).trans k3, (hb.cell (p := ⟨b, o + i * 6 + 4, none⟩) hlt).trans k4, (hb.cell (p := ⟨b, o + i * 6 + 5, none⟩) hlt).trans k5, hv.below hb⟩
theorem new_below (w : World) (o : Obj) : Below w.heap.size w (w.alloc o) := (Below.refl _ w).alloc (Nat.le_refl _) o
set_option maxRecDepth 100000 in
set_option maxHeartbeats 2000000 in
theorem law_c (A : Option Addr) (c : Nat) (xs : List VT) (x : VT) (v : Value) (w : World) (h : RRow w A xs) (hr : ∀ z ∈ xs, Raw z) (hv : RR w v x) (hx : Raw x) (hT : Thr w) (hL : Lim w) :
    Calls Tryz.prog 7 #[.slice A xs.length c, v] w fun e w' => e = .returned (.bool true) ∧ Below w.heap.size w w' := by
  have HV := Lib.hid hv
  obtain ⟨A2, c2, A5, n5, c5, rfl, _⟩ := hv
  obtain ⟨W0, hW0⟩ : ∃ W, W = w.alloc (.cells #[.int .i64 x.f0, .bool x.f1, .slice A2 x.f2.length c2, .int .u64 x.f3, .string x.f4, .slice A5 n5 c5] 26) := ⟨_, rfl⟩
  have HB0 : Hid (Below w.heap.size w W0) := by rw [hW0]; exact Lib.hid ((Below.refl _ w).alloc (Nat.le_refl _) _)
  have HK0 : Hid (W0.heap[w.heap.size]? = some (.cells #[.int .i64 x.f0, .bool x.f1, .slice A2 x.f2.length c2, .int .u64 x.f3, .string x.f4, .slice A5 n5 c5] 26 (0, 0))) := by rw [hW0]; exact Lib.hid (blk_new _ _)
  have HLO : Hid (∀ W, Below w.heap.size w W → Calls Tryz.prog 19 #[.slice A xs.length c] W (LOf W)) := Lib.hid fun W hW => lawsListOf_c A c xs W (rrow_below h hW) hr
  have HC : Hid (∀ W, Below w.heap.size w W → Calls Tryz.prog 9 #[.agg #[.int .i64 x.f0, .bool x.f1, .slice A2 x.f2.length c2, .int .u64 x.f3, .string x.f4, .slice A5 n5 c5], .int .i64 0] W (CleanR W)) := Lib.hid fun W hW => clean_c x _ W (HV.out.below hW) hx
  have HTL : Hid (∀ W, Below w.heap.size w W → Thr W ∧ Lim W) := Lib.hid fun W hW => ⟨hT.below hW, hL.below hW⟩
  clear h hr hx hT hL
  by_cases hbig : (2147483647 : Int) < xs.length
  · go_enter Tryz.func7, Tryz.ntmps7
    go_wp2_with fail
    rw [← hW0]
    clear hW0
    go_wp2
    go_ret
    exact ⟨rfl, HB0.out⟩
  · go_enter Tryz.func7, Tryz.ntmps7
    go_wp2_with fail
    rw [← hW0]
    clear hW0
    have z := cells6 HK0.out
    obtain ⟨z0, z1, z2, z3, z4, z5⟩ := z
    go_wp2_with (go_at_call 8; (with_reducible refine (fits_c _ _ _ _ _ _ _ _ _ _ _).mono ?_); rintro e w1 ⟨⟨r, rfl⟩, hb1⟩; have H1 := Lib.hid (And.intro (HB0.out.trans (hb1.mono HB0.out.size)) (blk_below HK0.out hb1)); clear hb1 z0 z1 z2 z3 z4 z5; cases r)
    all_goals first | (go_ret; exact ⟨rfl, H1.out.1⟩) | skip
    have HB1 : Hid (Below w.heap.size w w1) := Lib.hid H1.out.1
    have HK1 : Hid (w1.heap[w.heap.size]? = some (.cells #[.int .i64 x.f0, .bool x.f1, .slice A2 x.f2.length c2, .int .u64 x.f3, .string x.f4, .slice A5 n5 c5] 26 (0, 0))) := Lib.hid H1.out.2
    obtain ⟨z0, z1, z2, z3, z4, z5⟩ := cells6 HK1.out
    clear H1
    go_region_with (first
      | (go_at_call 19; (with_reducible refine (HLO.out _ (by first | (with_reducible exact HB1.out) | (with_reducible exact HB1.out.drew))).mono ?_); rintro e w2 ⟨u, ss, ys, rfl, hn, hf, hm, hb2⟩; have HK2 : Hid (w2.heap[w.heap.size]? = some (.cells #[.int .i64 x.f0, .bool x.f1, .slice A2 x.f2.length c2, .int .u64 x.f3, .string x.f4, .slice A5 n5 c5] 26 (0, 0)) ∧ Below w.heap.size w w2) := Lib.hid ⟨(hb2.block _ (lt_blk HK1.out)).trans HK1.out, by first | exact HB1.out.trans (hb2.mono HB1.out.size) | exact HB1.out.drew.trans (hb2.mono HB1.out.size)⟩; have H2 : Hid (ys.length ≤ 12 ∧ Fits ss ys ∧ MR w2 w1.heap.size u ys ∧ w1.heap.size ≤ w2.heap.size) := Lib.hid ⟨hn, hf, hm, hb2.size⟩; clear z0 z1 z2 z3 z4 z5; obtain ⟨z0, z1, z2, z3, z4, z5⟩ := cells6 HK2.out.1; clear hn hf hm hb2)
      | (go_at_call 9; (with_reducible refine (HC.out _ HK2.out.2).mono ?_); rintro e w3 ⟨u3, t, y, rfl, hv, hc, hf, hb3⟩; obtain ⟨P2, p2, P5, p5, rfl, hM⟩ := vm_shape hv; have H3 := Lib.hid (And.intro hM (And.intro hc (And.intro hf hb3))); clear z0 z1 z2 z3 z4 z5; obtain ⟨z0, z1, z2, z3, z4, z5⟩ := cells6 (blk_below HK2.out.1 hb3); have hfz := fun o => blk_free (blk_below HK2.out.1 hb3) o; clear hv hc hf hb3 hM))
    all_goals
      obtain ⟨W, hW⟩ : ∃ W, W = ((((((w3.setCell ⟨w.heap.size, 0, none⟩ (.int .i64 y.f0)).setCell ⟨w.heap.size, 1, none⟩ (.bool y.f1)).setCell ⟨w.heap.size, 2, none⟩ (.slice P2 y.f2.length p2)).setCell ⟨w.heap.size, 3, none⟩ (.int .u64 y.f3)).setCell ⟨w.heap.size, 4, none⟩ (.string y.f4)).setCell ⟨w.heap.size, 5, none⟩ (.slice P5 y.f5.length p5)) := ⟨_, rfl⟩
      have HX : Hid (Clean2 w u ss ys t y P2 P5 p2 p5 W) := by rw [hW]; exact Lib.hid (clean2 H2.out.2.2.1 (lt_blk HK1.out) H3.out.2.2.2 H3.out.1 (lt_blk HK2.out.1) (blk_below HK2.out.1 H3.out.2.2.2) (HK2.out.2.trans (H3.out.2.2.2.mono HK2.out.2.size)))
      rw [← hW]
      clear hW z0 z1 z2 z3 z4 z5 hfz
      obtain ⟨A', c', rfl, hC⟩ := HX.out.row
      have HCC := Lib.hid hC
      have HR := Lib.hid (implRemove_c A' c' ys y _ ss t W hC HX.out.val H2.out.2.1.1 H3.out.2.1 H2.out.2.1.2 H3.out.2.2.1 H2.out.1 (HTL.out _ HX.out.low).1 (HTL.out _ HX.out.low).2)
      clear hC
      obtain ⟨z0, z1, z2, z3, z4, z5⟩ := cells6 HX.out.blk
      go_wp2_with (first
        | (go_at_call 20; (with_reducible refine HR.out.mono ?_); intro e w4 h4; obtain ⟨O, n, m, r, he, hb4, hd⟩ := rem_does h4 HCC.out HX.out.val H2.out.2.1.1 H3.out.2.1 H2.out.1 (A := A') (c := c'); subst he; have HB4 := Lib.hid hb4; clear z0 z1 z2 z3 z4 z5; obtain ⟨z0, z1, z2, z3, z4, z5⟩ := cells6 (blk_below HX.out.blk hb4); clear h4 hb4)
        | (go_at_call 21; (with_reducible refine (hd.out _ w4.heap.size (new_below w4 _) (blk_new _ _)).mono ?_); rintro e w5 ⟨rfl, hb5⟩; have HB5 := Lib.hid hb5; clear hb5))
      go_ret
      exact ⟨rfl, (HX.out.low.trans (HB4.out.mono HX.out.low.size)).trans (((new_below w4 _).trans (HB5.out.mono (new_below w4 _).size)).mono (Nat.le_trans HX.out.low.size HB4.out.size))⟩
end Go.Proofs.YtkplnbjgkhmbcaaGreatDoor

namespace Go.Proofs.YtkplnbjgkhmbcaaGreatDoor
open Go.RowKit Go.Shelf Go.ChangeShapes Go.WideShapes Go.Deep Go.Proofs.YtkplnbjgkhmbcaaGreatDoorW.PrintWords Go.Proofs.YtkplnbjgkhmbcaaGreatDoorW.PrintLast Go.Proofs.YtkplnbjgkhmbcaaGreatDoorW.PrintMore Go.Proofs.YtkplnbjgkhmbcaaGreatDoor.PFnCompare Go.Proofs.YtkplnbjgkhmbcaaGreatDoor.PCmp Go.Proofs.YtkplnbjgkhmbcaaGreatDoor.PbytesOf Go.Proofs.YtkplnbjgkhmbcaaGreatDoor.Pcmp
set_option linter.unusedVariables false
set_option linter.unusedSimpArgs false

section
variable {H : Type} {enc : TypeId × Value → H} {W : World}
/-- Bytes that came in. -/
theorem bytes_open {fuel : Nat} {v : Value} {y : DataW H × List MemPlace} (h : DataW.trod enc Tryz.prog W 0 (fun _ => true) true fuel 22 [v] = some y) : ∃ A c l, v = .slice A l.length c ∧ l.length ≤ c ∧ (Kd.int .u8).C W A l.length l ∧ Bytes l := by
  have hc1 : Tryz.prog.cellsOf 5 = 1 := by kernel_rfl
  rcases open_ints Tryz.underlying22 Tryz.underlying5 hc1 h with ⟨hcs, _⟩ | ⟨ad, len, cap, zs, hcs, _, hle, hmax, hall, _, hcell, hwf⟩
  · simp only [List.cons.injEq, and_true] at hcs
    exact ⟨none, 0, [], hcs, Nat.le_refl _, c_nil, fun x hx => by cases hx⟩
  · simp only [List.cons.injEq, and_true] at hcs
    simp only [if_true] at hall
    unfold maxLen at hmax
    have hlen : (zs.take len).length = len := by rw [List.length_take]; omega
    refine ⟨some ad, cap, zs.take len, by rw [hlen]; exact hcs, by omega, ⟨rfl, by omega, fun hp => ⟨ad, rfl, fun j p hj => ⟨[.int .u8 p], rfl, rfl, fun i u hu => ?_⟩⟩⟩, fun x hx => ?_⟩
    · have hi : i = 0 := by
        rcases i with _ | i
        · rfl
        · simp at hu
      subst hi
      simp only [List.getElem?_cons_zero, Option.some.injEq] at hu
      subst hu
      obtain ⟨hj1, hj2⟩ := List.getElem?_eq_some_iff.1 hj
      have hj3 : j < zs.length := by rw [hlen] at hj1; omega
      have := hcell j hj3
      rw [List.getD_eq_getElem?_getD, List.getElem?_eq_getElem hj3] at this
      rw [List.getElem_take] at hj2
      rw [show j * (Kd.int IntKind.u8).sz + 0 = j from (by show j * 1 + 0 = j; omega), this, ← hj2]
      rfl
    · have := hwf x (List.mem_of_mem_take hx)
      have h0 : IntKind.u8.min = 0 := by decide
      have h1 : IntKind.u8.max = 255 := by decide
      simp [Lit.wf, h0, h1] at this
      omega
set_option maxRecDepth 100000 in
/-- The six cells of a Val that came in. -/
theorem val_open {fuel : Nat} {cs : List Value} {y : DataW H × List MemPlace} (h : DataW.trod enc Tryz.prog W 0 (fun _ => true) true fuel 26 cs = some y) :
    ∃ (x : VT) (A2 A5 : Option Addr) (c2 n5 c5 : Nat), cs = [.int .i64 x.f0, .bool x.f1, .slice A2 x.f2.length c2, .int .u64 x.f3, .string x.f4, .slice A5 n5 c5] ∧ x.f2.length ≤ c2 ∧ (Kd.int .u8).C W A2 x.f2.length x.f2 ∧ Raw x := by
  obtain ⟨ys, n, _, _, hl, hyl, hf⟩ := DataW.trod_struct Tryz.underlying26 h
  have h6 : Tryz.prog.cellsOf 26 = 6 := by kernel_rfl
  rw [h6] at hl
  match cs, hl with
  | [v0, v1, v2, v3, v4, v5], _ =>
    match ys, hyl with
    | [y0, y1, y2, y3, y4, y5], _ =>
      have e3 : Tryz.prog.cellsOf 3 = 1 := by kernel_rfl
      have e4 : Tryz.prog.cellsOf 4 = 1 := by kernel_rfl
      have e22 : Tryz.prog.cellsOf 22 = 1 := by kernel_rfl
      have e23 : Tryz.prog.cellsOf 23 = 1 := by kernel_rfl
      have e9 : Tryz.prog.cellsOf 9 = 1 := by kernel_rfl
      have e24 : Tryz.prog.cellsOf 24 = 1 := by kernel_rfl
      have f0 : DataW.trod enc Tryz.prog W 0 (fun _ => true) true n 3 [v0] = some y0 := by simpa [e3] using hf 0 _ rfl
      have f1 : DataW.trod enc Tryz.prog W 0 (fun _ => true) true n 4 [v1] = some y1 := by simpa [e4] using hf 1 _ rfl
      have f2 : DataW.trod enc Tryz.prog W 0 (fun _ => true) true n 22 [v2] = some y2 := by simpa [e22] using hf 2 _ rfl
      have f3 : DataW.trod enc Tryz.prog W 0 (fun _ => true) true n 23 [v3] = some y3 := by simpa [e23] using hf 3 _ rfl
      have f4 : DataW.trod enc Tryz.prog W 0 (fun _ => true) true n 9 [v4] = some y4 := by simpa [e9] using hf 4 _ rfl
      have f5 : DataW.trod enc Tryz.prog W 0 (fun _ => true) true n 24 [v5] = some y5 := by simpa [e24] using hf 5 _ rfl
      obtain ⟨k, hk, _⟩ := DataW.trod_int Tryz.underlying3 f0
      obtain ⟨b, hb, _⟩ := DataW.trod_bool Tryz.underlying4 f1
      obtain ⟨A2, c2, l, rfl, hl2, hC, hB⟩ := bytes_open f2
      obtain ⟨u, hu, _, huw⟩ := DataW.trod_int Tryz.underlying23 f3
      obtain ⟨t, ht, _⟩ := DataW.trod_string Tryz.underlying9 f4
      have h5 : ∃ A5 n5 c5, v5 = .slice A5 n5 c5 := by
        rcases open_slice Tryz.underlying24 f5 with ⟨hcs, _⟩ | ⟨a, len, cap, m, n, D, Pl, hcs, _⟩
        · simp only [List.cons.injEq, and_true] at hcs; exact ⟨_, _, _, hcs⟩
        · simp only [List.cons.injEq, and_true] at hcs; exact ⟨_, _, _, hcs⟩
      obtain ⟨A5, n5, c5, rfl⟩ := h5
      simp only [List.cons.injEq, and_true] at hk hb hu ht
      subst hk hb hu ht
      have hub := bounds_u64 huw
      exact ⟨⟨k, b, l, u, t, []⟩, A2, A5, c2, n5, c5, rfl, hl2, hC, ⟨⟨hub.1, by show u < _; omega⟩, hB⟩⟩
theorem list_choice {α : Type} {P : Nat → α → Prop} : ∀ n, (∀ i, i < n → ∃ x, P i x) → ∃ xs : List α, xs.length = n ∧ ∀ i (h : i < xs.length), P i xs[i]
  | 0, _ => ⟨[], rfl, fun i h => absurd h (Nat.not_lt_zero _)⟩
  | n + 1, h => by
    obtain ⟨xs, hl, hx⟩ := list_choice n fun i hi => h i (by omega)
    obtain ⟨x, hp⟩ := h n (by omega)
    refine ⟨xs ++ [x], by simp [hl], fun i hi => ?_⟩
    by_cases hlt : i < xs.length
    · rw [List.getElem_append_left hlt]; exact hx i hlt
    · have hie : i = xs.length := by simp at hi; omega
      subst hie
      have e : (xs ++ [x])[xs.length] = x := by simp
      rw [e, hl]; exact hp
set_option maxRecDepth 100000 in
/-- A row of Vals that came in. -/
theorem row_open {fuel : Nat} {v : Value} {y : DataW H × List MemPlace} (h : DataW.trod enc Tryz.prog W 0 (fun _ => true) true fuel 24 [v] = some y) :
    ∃ (xs : List VT) (A : Option Addr) (c : Nat), v = .slice A xs.length c ∧ RRow W A xs ∧ ∀ x ∈ xs, Raw x := by
  have h6 : Tryz.prog.cellsOf 26 = 6 := by kernel_rfl
  rcases open_slice Tryz.underlying24 h with ⟨hcs, _⟩ | ⟨a, len, cap, m, n, D, Pl, hcs, _, hle, hmx, hm, _, hel⟩
  · simp only [List.cons.injEq, and_true] at hcs
    exact ⟨[], none, 0, hcs, fun i hi => absurd hi (Nat.not_lt_zero _), fun x hx => by cases hx⟩
  · simp only [List.cons.injEq, and_true] at hcs
    simp only [if_true] at hm
    rw [h6] at hel
    have hch : ∀ i, i < len → ∃ x : VT, ∃ b o A2 c2 A5 n5 c5, a = ⟨b, o, none⟩ ∧ b < W.heap.size ∧
        W.cell? ⟨b, o + i * 6, none⟩ = some (.int .i64 x.f0) ∧ W.cell? ⟨b, o + i * 6 + 1, none⟩ = some (.bool x.f1) ∧ W.cell? ⟨b, o + i * 6 + 2, none⟩ = some (.slice A2 x.f2.length c2) ∧ W.cell? ⟨b, o + i * 6 + 3, none⟩ = some (.int .u64 x.f3) ∧ W.cell? ⟨b, o + i * 6 + 4, none⟩ = some (.string x.f4) ∧ W.cell? ⟨b, o + i * 6 + 5, none⟩ = some (.slice A5 n5 c5) ∧
        RR W (.agg #[.int .i64 x.f0, .bool x.f1, .slice A2 x.f2.length c2, .int .u64 x.f3, .string x.f4, .slice A5 n5 c5]) x ∧ Raw x := fun i hi => by
      obtain ⟨cs', hc, ht⟩ := hel i (by omega)
      obtain ⟨x, A2, A5, c2, n5, c5, rfl, hl2, hC, hR⟩ := val_open ht
      obtain ⟨_, _, hat⟩ := World.cells?_some hc
      obtain ⟨cs0, hc0, ht0⟩ := hel 0 (by omega)
      obtain ⟨x0, B2, B5, d2, m5, d5, rfl, _⟩ := val_open ht0
      obtain ⟨_, _, hat0⟩ := World.cells?_some hc0
      obtain ⟨b, o, sp⟩ := a
      have hs : sp = none := by
        have h1 := World.cell?_spot (hat0 0 (by omega))
        simpa [Addr.add] using h1
      subst hs
      have ha : ∀ j, (⟨b, o, none⟩ : Addr).add j = ⟨b, o + j, none⟩ := fun j => by
        unfold Addr.add; split <;> simp_all
      simp only [ha] at hat
      have ha2 : ∀ p j, (⟨b, p, none⟩ : Addr).add j = ⟨b, p + j, none⟩ := fun p j => by
        unfold Addr.add; split <;> simp_all
      simp only [ha2] at hat
      have k0 := hat 0 (by omega)
      exact ⟨x, b, o, A2, c2, A5, n5, c5, rfl, lt_of_cell k0, by simpa using k0, hat 1 (by omega), hat 2 (by omega), hat 3 (by omega), hat 4 (by omega), hat 5 (by omega), ⟨A2, c2, A5, n5, c5, rfl, hl2, hC⟩, hR⟩
    obtain ⟨xs, hl, hx⟩ := list_choice len hch
    refine ⟨xs, some a, cap, by rw [hl]; exact hcs, fun i hi => ?_, fun x hx' => ?_⟩
    · obtain ⟨b, o, A2, c2, A5, n5, c5, e, h1, k0, k1, k2, k3, k4, k5, hv, _⟩ := hx i hi
      exact ⟨b, o, A2, c2, A5, n5, c5, by rw [e], h1, k0, k1, k2, k3, k4, k5, hv⟩
    · obtain ⟨i, hi, rfl⟩ := List.getElem_of_mem hx'
      obtain ⟨b, o, A2, c2, A5, n5, c5, _, _, _, _, _, _, _, _, _, hR⟩ := hx i hi
      exact hR
end
end Go.Proofs.YtkplnbjgkhmbcaaGreatDoor
