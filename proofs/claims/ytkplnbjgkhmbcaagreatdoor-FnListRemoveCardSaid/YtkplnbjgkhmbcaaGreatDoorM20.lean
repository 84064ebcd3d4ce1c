/- Int.Cmp; Rat.norm. -/
import Derived.Test.YtkplnbjgkhmbcaaGreatDoorM19
import Derived.Deep.RegionHeld3
namespace Go.Proofs.YtkplnbjgkhmbcaaGreatDoor
open Go.RowKit Go.Shelf Go.Proofs.YtkplnbjgkhmbcaaGreatDoorW.PrintWords Go.Proofs.YtkplnbjgkhmbcaaGreatDoorW.PrintLast Go.Proofs.YtkplnbjgkhmbcaaGreatDoorW.PrintMore
set_option linter.unusedVariables false
set_option linter.unusedSimpArgs false

theorem ptr_eqlP (w : World) (a b : Addr) (h : a ≠ b) {ca cb : Array Value} {ta tb : TypeId} (ha : w.heap[a.block]? = some (.cells ca ta (0, 0))) (hb : w.heap[b.block]? = some (.cells cb tb (0, 0))) : (binOp .eql 118 (.pointer (some a)) (.pointer (some b))).run Tryz.prog w = .ok (.bool false) w := by
  obtain ⟨i, hi, hs⟩ := Option.map_eq_some_iff.1 intInfo
  exact run_eql_ptr_other w Tryz.underlying118 hi (by rw [hs]; decide) h ha hb
theorem quiet_add {P : Program} {f : FuncId} {args : Array Value} {w : World} {a n : Nat} {v : Value}
    (h : Calls P f args (w.drewN (a + n)) fun e w' => e = .returned v ∧ ∃ m, w' = (w.drewN (a + n)).drewN m) :
    Calls P f args (w.drewN (a + n)) fun e w'' => e = .returned v ∧ ∃ m, w'' = w.drewN (a + m) :=
  h.mono fun _ _ ⟨he, m, hm⟩ => ⟨he, n + m, by rw [hm, drewN_two, Nat.add_assoc]⟩
theorem bval_false (zs : List Int) : bval false zs = leN zs := rfl
theorem bval_true (zs : List Int) : bval true zs = - leN zs := rfl
theorem cmp_ff (x y : Int) : sgn (x - y) = sgn (x - y) := rfl
theorem sgn_wrap (x : Int) : wrap64 (- sgn x) = - sgn x := by
  have := sgn_vals x
  unfold wrap64
  omega

set_option maxRecDepth 100000 in
set_option maxHeartbeats 1000000 in
theorem intCmp_c (g1 o1 g2 o2 : Nat) (n1 n2 : Bool) (v1 v2 : Value) (zs ws : List Int) (w : World) (h1 : PI w g1 o1 n1 v1 zs) (h2 : PI w g2 o2 n2 v2 ws) (hne : g1 ≠ g2) (hl1 : zs.length ≤ 1000000) (hl2 : ws.length ≤ 1000000) (z1 : zs = [] → n1 = false) (z2 : ws = [] → n2 = false) :
    Calls Tryz.prog 104 #[.pointer (some ⟨g1, o1, none⟩), .pointer (some ⟨g2, o2, none⟩)] w fun e w' => e = .returned (.int .i64 (sgn (bval n1 zs - bval n2 ws))) ∧ ∃ n, w' = w.drewN n := by
  obtain ⟨A1, k1, rfl, _⟩ := h1.sl.c
  obtain ⟨A2, k2, rfl, _⟩ := h2.sl.c
  obtain ⟨ca, ta, ha, _⟩ := h1.blk
  obtain ⟨cb, tb, hb, _⟩ := h2.blk
  have hpe := ptr_eqlP w ⟨g1, o1, none⟩ ⟨g2, o2, none⟩ (by intro e; injection e with e; exact hne e) ha hb
  have a0 := h1.c0
  have a1 := h1.c1
  have b0 := h2.c0
  have b1 := h2.c1
  have HC := Lib.hid (fun n => natCmp_c _ _ _ _ zs ws (w.drewN n) (h1.sl.below (pw_below_drewN (Below.refl _ _) n)) (h2.sl.below (pw_below_drewN (Below.refl _ _) n)) h1.words h2.words h1.top h2.top (by omega) (by omega))
  have hz := (leN_bd zs h1.words).1
  have hw := (leN_bd ws h2.words).1
  have hzp : zs ≠ [] → 0 < leN zs := fun h => by
    have := leN_top zs h1.words h1.top h
    have := wpos (zs.length - 1)
    omega
  have hwp : ws ≠ [] → 0 < leN ws := fun h => by
    have := leN_top ws h2.words h2.top h
    have := wpos (ws.length - 1)
    omega
  clear ha hb h1 h2
  cases n1
  · cases n2
    · rw [bval_false, bval_false]
      generalize sgn (leN zs - leN ws) = s at HC ⊢
      clear hzp hwp hz hw z1 z2
      go_enter Tryz.func104, Tryz.ntmps104
      go_wp2_with fail
      go_quiet (fail)
      go_wp2_with fail
      go_quiet ((go_at_call 137; exact quiet_add (HC.out _)))
      go_wp2
      go_ret
      exact ⟨rfl, _, rfl⟩
    · have hs : Hid (sgn (bval false zs - bval true ws) = 1) := by
        refine Lib.hid ?_
        rw [bval_false, bval_true]
        have : ws ≠ [] := fun e => by have := z2 e; cases this
        have := hwp this
        exact sgn_of_pos (by omega)
      clear hzp hwp hz hw z1 z2 HC
      rw [hs.out]
      go_enter Tryz.func104, Tryz.ntmps104
      go_wp2
      go_quiet (fail)
      go_wp2
      go_ret
      exact ⟨rfl, _, rfl⟩
  · have hzs : zs ≠ [] := fun e => by have := z1 e; cases this
    have hzp := hzp hzs
    cases n2
    · have hs : Hid (sgn (bval true zs - bval false ws) = -1) := by
        refine Lib.hid ?_
        rw [bval_false, bval_true]
        exact sgn_of_neg (by omega)
      clear hzp hwp hz hw z1 z2 HC
      rw [hs.out]
      go_enter Tryz.func104, Tryz.ntmps104
      go_wp2
      go_quiet (fail)
      go_wp2
      go_ret
      exact ⟨rfl, _, rfl⟩
    · have hs : Hid (sgn (bval true zs - bval true ws) = wrap64 (- sgn (leN zs - leN ws))) := by
        refine Lib.hid ?_
        rw [sgn_wrap, bval_true, bval_true, ← sgn_neg]
        congr 1; omega
      rw [hs.out]
      generalize sgn (leN zs - leN ws) = s at HC ⊢
      clear hzp hwp hz hw z1 z2 hs
      go_enter Tryz.func104, Tryz.ntmps104
      go_wp2_with fail
      go_quiet (fail)
      go_wp2_with fail
      go_quiet ((go_at_call 137; exact quiet_add (HC.out _)))
      go_wp2
      go_ret
      exact ⟨rfl, _, rfl⟩

set_option maxRecDepth 100000 in
theorem newInt0_c (w : World) : Calls Tryz.prog 144 #[.int .i64 0] w fun e w' => e = .returned (.pointer (some ⟨w.heap.size, 0, none⟩)) ∧ w' = w.alloc (.cells #[.bool false, .slice none 0 0] 196) := by
  go_enter Tryz.func144, Tryz.ntmps144
  go_wp2
  go_ret
  exact ⟨rfl, rfl⟩

/-- What norm is asked: a quotient in lowest terms. -/
structure NQ (xs ys : List Int) : Prop where
  bez : Bez (leN xs) (leN ys)
  nx : xs ≠ []
  ny : ys ≠ []
  lx : xs.length ≤ 1000
  ly : ys.length ≤ 1000
  one : (xs.length = 1 ∧ (ys.length = 1 ∨ leN xs < 9223372036854775808)) ∨ (ys.length = 1 ∧ (xs.length = 1 ∨ leN ys < 9223372036854775808))
set_option maxRecDepth 100000 in
set_option maxHeartbeats 4000000 in
theorem norm_c (g : Nat) (na : Bool) (va vb : Value) (xs ys : List Int) (w : World) (h : RT w g na va xs vb ys) (hq : NQ xs ys) :
    Calls Tryz.prog 141 #[.pointer (some ⟨g, 0, none⟩)] w fun e w' => e = .returned (.pointer (some ⟨g, 0, none⟩)) ∧ RT w' g na va xs vb ys ∧ Below g w w' := by
  have e1 : ((xs.length : Int) == 0) = false := beq_eq_false_iff_ne.2 (by have := List.length_pos_iff.2 hq.nx; omega)
  have e2 : ((ys.length : Int) == 0) = false := beq_eq_false_iff_ne.2 (by have := List.length_pos_iff.2 hq.ny; omega)
  obtain ⟨A1, k1, rfl, _⟩ := h.sa.c
  obtain ⟨A2, k2, rfl, _⟩ := h.sb.c
  have HQ := Lib.hid hq
  have H := Lib.hid h
  have hg : g < w.heap.size := lt_of_cell h.pa.c0
  have c0 := blk_cell h.blk 0 _ rfl
  have c1 := blk_cell h.blk 1 _ rfl
  have c2 := blk_cell h.blk 2 _ rfl
  have c3 := blk_cell h.blk 3 _ rfl
  clear h hq
  go_enter_defers Tryz.func141, Tryz.ntmps141
  go_wp2_with (go_at_call 101; (with_reducible refine (getStack_c _).mono ?_); rintro e w1 ⟨rfl, hs1, hb1, hl1⟩; have HS := Lib.hid hs1; have HB1 := Lib.hid hb1; have HL1 := Lib.hid hl1; replace H := Lib.hid (H.out.below hb1); clear c0 c1 c2 c3 hs1 hb1 hl1; have c0 : w1.cell? ⟨g, 0, none⟩ = some (.bool na) := blk_cell H.out.blk 0 _ rfl; have c1 := blk_cell H.out.blk 1 _ rfl; have c2 : w1.cell? ⟨g, 2, none⟩ = some (.bool false) := blk_cell H.out.blk 2 _ rfl; have f0 := blk_free H.out.blk 0; have f2 := blk_free H.out.blk 2)
  have H2 := Lib.hid ((H.out.put0 false).put2)
  have HB2 : Hid (Below g w ((w1.setCell ⟨g, 0, none⟩ (.bool false)).setCell ⟨g, 2, none⟩ (.bool false))) := Lib.hid (((HB1.out.mono (Nat.le_of_lt hg)).setCell (Nat.le_refl _) _).setCell (Nat.le_refl _) _)
  have hsc : ((w1.setCell ⟨g, 0, none⟩ (.bool false)).setCell ⟨g, 2, none⟩ (.bool false)).cell? ⟨w.heap.size, 0, none⟩ = some (.pointer none) := by
    rw [cell_setCell_ne _ _ _ _ (Or.inl (by show g ≠ w.heap.size; omega)), cell_setCell_ne _ _ _ _ (Or.inl (by show g ≠ w.heap.size; omega))]
    exact HS.out
  have HSC := Lib.hid hsc
  clear hsc c0 c1 c2 f0 f2 HS HL1 HB1 H
  generalize (w1.setCell ⟨g, 0, none⟩ (.bool false)).setCell ⟨g, 2, none⟩ (.bool false) = W at H2 HB2 HSC ⊢
  have hgW : g < W.heap.size := Nat.lt_of_lt_of_le hg HB2.out.size
  have HG := Lib.hid (fun W' (hb : Below W.heap.size W W') hk => gcd_c W.heap.size g _ _ xs ys W' (H2.out.below hb).pa (H2.out.below hb).pb hk hgW HQ.out.bez HQ.out.nx HQ.out.ny (by have := HQ.out.lx; omega) (by have := HQ.out.ly; omega) HQ.out.one)
  go_region_held3 (fun _ => True) (trivial) (first | (go_at_call 144; (refine (newInt0_c _).mono ?_); rintro e w2 ⟨rfl, hw2⟩; have HW2 : Hid (Below W.heap.size W w2 ∧ w2.heap[W.heap.size]? = some (.cells #[.bool false, .slice none 0 0] 196 (0, 0))) := (by subst hw2; exact ⟨(Below.refl _ _).drew.alloc (Nat.le_refl _) _, blk_new _ _⟩); clear hw2) | (go_at_call 174; (refine (HG.out _ HW2.out.1 HW2.out.2).mono ?_); rintro e w3 ⟨rfl, ⟨u, hu⟩, hb3⟩; have HU := Lib.hid hu; have HB3 := Lib.hid (HW2.out.1.trans hb3); clear hu hb3))
  have hb3 := HB3.out
  have HR3 := Lib.hid (H2.out.below hb3)
  have hsc3 : w3.cell? ⟨w.heap.size, 0, none⟩ = some (.pointer none) := (hb3.cell (p := ⟨w.heap.size, 0, none⟩) (lt_of_cell HSC.out)).trans HSC.out
  have HSC3 := Lib.hid hsc3
  have HB33 := Lib.hid (HB2.out.trans (hb3.mono (Nat.le_of_lt hgW)))
  clear hsc3 hb3 HSC H2 HB2 HG HB3 HW2
  go_wp2_with (first
    | (go_at_call 139; (with_reducible refine (intOne_c _).mono ?_); rintro e w4 ⟨gx, u2, rfl, hgx, hp, hb4⟩; have HP := Lib.hid (And.intro hgx (And.intro hp hb4)); clear hgx hp hb4)
    | (go_at_call 104; (with_reducible refine (intCmp_c W.heap.size 0 gx 0 false false _ _ [1] [1] _ (HU.out.pi.below HP.out.2.2) HP.out.2.1 (by have := HP.out.1; have := HU.out.lt; omega) (by simp) (by simp) (fun h => by cases h) (fun h => by cases h)).mono ?_); rintro e w5 ⟨rfl, n5, rfl⟩; rw [show sgn (bval false [1] - bval false [1]) = 0 from by rw [Int.sub_self]; rfl]; have HR5 := Lib.hid ((HR3.out.below HP.out.2.2).drewN n5); have HB5 := Lib.hid (pw_below_drewN (HB33.out.trans (HP.out.2.2.mono (by have := HB33.out.size; have := lt_of_cell HR3.out.pa.c0; omega))) n5); have hs5 := (HP.out.2.2.cell (p := ⟨w.heap.size, 0, none⟩) (lt_of_cell HSC3.out)).trans HSC3.out; have HS5 := Lib.hid hs5; have c0 := blk_cell HR5.out.blk 0 _ rfl; have f0 := blk_free HR5.out.blk 0; clear hs5))
  refine leaves_cons (f := 102) (args := #[.pointer (some ⟨w.heap.size, 0, none⟩)]) (by simp) (by simp [go_sem]) ?_
  refine (free_deferred w.heap.size .returning _ ?_).mono ?_
  · rw [cell_setCell_ne _ _ _ _ (Or.inl (by show g ≠ w.heap.size; omega))]
    exact HS5.out
  rintro e u' w'' ⟨rfl, rfl, rfl⟩
  exact ⟨_, results_tmp rfl _ _ _, rfl, HR5.out.put0 na, HB5.out.setCell (Nat.le_refl _) _⟩
end Go.Proofs.YtkplnbjgkhmbcaaGreatDoor
