/- QuoRem by one word, euclidUpdate. -/
import Derived.Test.YtkplnbjgkhmbcaaGreatDoorM12
import Derived.Deep.DeepCutAuto
import Derived.Deep.RegionHeld3
import Derived.Outline
import Derived.BigRegion
namespace Go.Proofs.YtkplnbjgkhmbcaaGreatDoor
open Go.RowKit Go.Shelf Go.Proofs.YtkplnbjgkhmbcaaGreatDoorW.PrintWords Go.Proofs.YtkplnbjgkhmbcaaGreatDoorW.PrintLast Go.Proofs.YtkplnbjgkhmbcaaGreatDoorW.PrintMore
set_option linter.unusedVariables false
set_option linter.unusedSimpArgs false

theorem dec_no {n : Nat} (h : n = 0) : decide (0 < n) = false ∧ decide ((0 : Int) < (n : Int)) = false := ⟨decide_eq_false (by omega), decide_eq_false (by omega)⟩
theorem dec_yes {n : Nat} (h : 0 < n) : decide (0 < n) = true ∧ decide ((0 : Int) < (n : Int)) = true := ⟨decide_eq_true h, decide_eq_true (by omega)⟩
theorem blk_keepH {w w' : World} {g : Nat} {o : Obj} (h : w.heap[g]? = some o) (hb : Below w.heap.size w w') (hg : g < w.heap.size) : w'.heap[g]? = some o := (hb.block g hg).trans h
set_option maxRecDepth 100000 in
set_option maxHeartbeats 8000000 in
/-- q.QuoRem(x, y, r): q, r new, x and y above 0, y of one word: the rest. -/
theorem quoRem_c (gq gr ga gb : Nat) (va vb : Value) (zs : List Int) (y : Int) (w : World) (ha : BI w ga false va zs) (hb : BI w gb false vb [y]) (h2 : 2 ≤ zs.length) (hmax : zs.length ≤ 4398046511104) (h0 : 0 < y) (h1 : y < 9223372036854775808)
    (hq : w.heap[gq]? = some (.cells #[.bool false, .slice none 0 0] 196 (0, 0))) (hr : w.heap[gr]? = some (.cells #[.bool false, .slice none 0 0] 196 (0, 0)))
    (hqr : gq < gr) (ne1 : ga < gq) (ne2 : gb < gq) :
    Calls Tryz.prog 221 #[.pointer (some ⟨gq, 0, none⟩), .pointer (some ⟨ga, 0, none⟩), .pointer (some ⟨gb, 0, none⟩), .pointer (some ⟨gr, 0, none⟩)] w fun e w' =>
      e = .returned (.tuple #[.pointer (some ⟨gq, 0, none⟩), .pointer (some ⟨gr, 0, none⟩)]) ∧ (∃ u, BI w' gr false u (wordL (leN zs % y))) ∧ Below gq w w' := by
  have HC := Lib.hid (fun w' (h : Below w.heap.size w w') => natDiv_c _ _ va vb zs y w' (ha.sl.below h) h2 ha.words hmax (hb.sl.below h) h0 h1)
  have hrw : 0 ≤ leN zs % y ∧ leN zs % y < 18446744073709551616 := by
    have := Int.emod_nonneg (leN zs) (b := y) (by omega)
    have := Int.emod_lt_of_pos (leN zs) (b := y) (by omega)
    omega
  have HW := Lib.hid (And.intro (words_wordL _ hrw.1 hrw.2) (top_wordL (leN zs % y)))
  generalize wordL (leN zs % y) = rl at HC HW ⊢
  have a0 := ha.c0
  have a1 := ha.c1
  have b0 := hb.c0
  have b1 := hb.c1
  have hla := ha.lt
  have hlb := hb.lt
  have q0 : w.cell? ⟨gq, 0, none⟩ = some (.bool false) := blk_cell hq 0 _ rfl
  have q1 : w.cell? ⟨gq, 1, none⟩ = some (.slice none 0 0) := blk_cell hq 1 _ rfl
  have qf0 := blk_free hq 0
  have qf1 := blk_free hq 1
  have r0 : w.cell? ⟨gr, 0, none⟩ = some (.bool false) := blk_cell hr 0 _ rfl
  have r1 : w.cell? ⟨gr, 1, none⟩ = some (.slice none 0 0) := blk_cell hr 1 _ rfl
  have rf0 := blk_free hr 0
  have rf1 := blk_free hr 1
  have hlq := lt_of_cell q0
  have hlr := lt_of_cell r0
  have HQ := Lib.hid hq
  have HR := Lib.hid hr
  obtain ⟨A, c, rfl, _⟩ := ha.sl.c
  obtain ⟨A2, c2, rfl, _⟩ := hb.sl.c
  simp only [List.length_singleton] at HC b1
  clear ha hb hq hr hrw h0 h1 hmax h2
  have HB0 : Hid (Below w.heap.size w w) := Below.refl _ _
  have nqa : gq ≠ ga := by omega
  have nqb : gq ≠ gb := by omega
  have nra : gr ≠ ga := by omega
  have nrb : gr ≠ gb := by omega
  have HL0 := Lib.hid hlr
  have HA0 := Lib.hid a0
  have HA1 := Lib.hid b0
  go_enter Tryz.func221, Tryz.ntmps221
  go_upto_region 1 with fail
  go_cut [] (fun wx => ∃ A3 n3 c3 A4 c4, wx.heap[gq]? = some (.cells #[.bool false, .slice A3 n3 c3] 196 (0, 0)) ∧ wx.heap[gr]? = some (.cells #[.bool false, .slice A4 rl.length c4] 196 (0, 0)) ∧ Hid (Sl .u64 (gr + 1) wx (.slice A4 rl.length c4) rl) ∧ Hid (Below gq w wx))
  case first =>
    refine wp_region_held_drew (S := fun w' => w'.cell? ⟨ga, 1, none⟩ = some (.slice A zs.length c) ∧ w'.cell? ⟨gb, 1, none⟩ = some (.slice A2 1 c2)) (by kernel_rfl) ⟨a1, b1⟩ (fun hHeld => ?_)
    refine wpAnyH_take (i := 0) (oi := _) (v := ?_) rfl (by kernel_rfl) (by kernel_rfl) (by kernel_rfl) (fun _ _ _ h => h) (Or.inl ⟨by rfl, ?_⟩) (by assumption) ?_; rotate_left 1; · (intro w hSw; (try dsimp only at hSw); go_simp; first | done | with_reducible rfl)
    try simp only [Act.put, List.setIfInBounds_toArray, List.set_cons_zero, List.set_cons_succ, List.getElem_toArray, List.getElem_cons_zero, List.getElem_cons_succ]
    refine wpAnyH_take (i := 1) (oi := _) (v := ?_) rfl (by kernel_rfl) (by kernel_rfl) (by kernel_rfl) (fun _ _ _ h => h) (Or.inl ⟨by rfl, ?_⟩) (by assumption) ?_; rotate_left 1; · (intro w hSw; (try dsimp only at hSw); go_simp; first | done | with_reducible rfl)
    try simp only [Act.put, List.setIfInBounds_toArray, List.set_cons_zero, List.set_cons_succ, List.getElem_toArray, List.getElem_cons_zero, List.getElem_cons_succ]
    refine wpAnyH_take (i := 2) (oi := _) (v := ?_) rfl (by kernel_rfl) (by kernel_rfl) (by kernel_rfl) (fun _ _ _ h => h) (Or.inl ⟨by rfl, ?_⟩) (by assumption) ?_; rotate_left 1; · (intro w hSw; (try dsimp only at hSw); go_simp; first | done | with_reducible rfl)
    try simp only [Act.put, List.setIfInBounds_toArray, List.set_cons_zero, List.set_cons_succ, List.getElem_toArray, List.getElem_cons_zero, List.getElem_cons_succ]
    refine wpAnyH_take (i := 3) (oi := _) (v := ?_) rfl (by kernel_rfl) (by kernel_rfl) (by kernel_rfl) (fun _ _ _ h => h) (Or.inl ⟨by rfl, ?_⟩) (by assumption) ?_; rotate_left 1; · (intro w hSw; (try dsimp only at hSw); go_simp; first | done | with_reducible rfl)
    try simp only [Act.put, List.setIfInBounds_toArray, List.set_cons_zero, List.set_cons_succ, List.getElem_toArray, List.getElem_cons_zero, List.getElem_cons_succ]
    refine wpAnyH_take (i := 4) (oi := _) (v := ?_) rfl (by kernel_rfl) (by kernel_rfl) (by kernel_rfl) (fun _ _ _ h => h) (Or.inl ⟨by rfl, ?_⟩) (by assumption) ?_; rotate_left 1; · (intro w hSw; (try dsimp only at hSw); go_simp; first | done | with_reducible rfl)
    try simp only [Act.put, List.setIfInBounds_toArray, List.set_cons_zero, List.set_cons_succ, List.getElem_toArray, List.getElem_cons_zero, List.getElem_cons_succ]
    refine wpAnyH_take (i := 6) (oi := _) (v := ?_) rfl (by kernel_rfl) (by kernel_rfl) (by kernel_rfl) (fun _ _ _ h => h) (Or.inl ⟨by rfl, ?_⟩) (by assumption) ?_; rotate_left 1; · (intro w hSw; (try dsimp only at hSw); go_simp; first | done | with_reducible rfl)
    try simp only [Act.put, List.setIfInBounds_toArray, List.set_cons_zero, List.set_cons_succ, List.getElem_toArray, List.getElem_cons_zero, List.getElem_cons_succ]
    refine wpAnyH_take (i := 7) (oi := _) (v := ?_) rfl (by kernel_rfl) (by kernel_rfl) (by kernel_rfl) (fun _ _ _ h => h) (Or.inl ⟨by rfl, ?_⟩) (by assumption) ?_; rotate_left 1; · (intro w hSw; (try dsimp only at hSw); go_simp; first | done | with_reducible rfl)
    try simp only [Act.put, List.setIfInBounds_toArray, List.set_cons_zero, List.set_cons_succ, List.getElem_toArray, List.getElem_cons_zero, List.getElem_cons_succ]
    refine wpAnyH_take (i := 8) (oi := _) (v := ?_) rfl (by kernel_rfl) (by kernel_rfl) (by kernel_rfl) (fun _ _ _ h => h) (Or.inl ⟨by rfl, ?_⟩) (by assumption) ?_; rotate_left 1; · (intro w hSw; (try dsimp only at hSw); go_simp; first | done | with_reducible rfl)
    try simp only [Act.put, List.setIfInBounds_toArray, List.set_cons_zero, List.set_cons_succ, List.getElem_toArray, List.getElem_cons_zero, List.getElem_cons_succ]
    refine wpAnyH_take (i := 10) (oi := _) (v := ?_) rfl (by kernel_rfl) (by kernel_rfl) (by kernel_rfl) (fun _ _ _ h => h) (Or.inl ⟨by rfl, ?_⟩) (by assumption) ?_; rotate_left 1; · (intro w hSw; (try dsimp only at hSw); go_simp; first | done | with_reducible rfl)
    try simp only [Act.put, List.setIfInBounds_toArray, List.set_cons_zero, List.set_cons_succ, List.getElem_toArray, List.getElem_cons_zero, List.getElem_cons_succ]
    refine wpAnyH_take (i := 11) (oi := _) (v := ?_) rfl (by kernel_rfl) (by kernel_rfl) (by kernel_rfl) (fun _ _ _ h => h) (Or.inl ⟨by rfl, ?_⟩) (by assumption) ?_; rotate_left 1; · (intro w hSw; (try dsimp only at hSw); go_simp; first | done | with_reducible rfl)
    try simp only [Act.put, List.setIfInBounds_toArray, List.set_cons_zero, List.set_cons_succ, List.getElem_toArray, List.getElem_cons_zero, List.getElem_cons_succ]
    refine wpAnyH_take (i := 12) (oi := _) (v := ?_) rfl (by kernel_rfl) (by kernel_rfl) (by kernel_rfl) (fun _ _ _ h => h) (Or.inl ⟨by rfl, ?_⟩) (by assumption) ?_; rotate_left 1; · (intro w hSw; (try dsimp only at hSw); go_simp; first | done | with_reducible rfl)
    try simp only [Act.put, List.setIfInBounds_toArray, List.set_cons_zero, List.set_cons_succ, List.getElem_toArray, List.getElem_cons_zero, List.getElem_cons_succ]
    refine wpAnyH_take (i := 13) (oi := _) (v := ?_) rfl (by kernel_rfl) (by kernel_rfl) (by kernel_rfl) (fun _ _ _ h => h) (Or.inl ⟨by rfl, ?_⟩) (by assumption) ?_; rotate_left 1; · (intro w hSw; (try dsimp only at hSw); go_simp; first | done | with_reducible rfl)
    try simp only [Act.put, List.setIfInBounds_toArray, List.set_cons_zero, List.set_cons_succ, List.getElem_toArray, List.getElem_cons_zero, List.getElem_cons_succ]
    refine wpAnyH_take (i := 14) (oi := _) (v := ?_) rfl (by kernel_rfl) (by kernel_rfl) (by kernel_rfl) (fun _ _ _ h => h) (Or.inl ⟨by rfl, ?_⟩) (by assumption) ?_; rotate_left 1; · (intro w hSw; (try dsimp only at hSw); go_simp; first | done | with_reducible rfl)
    try simp only [Act.put, List.setIfInBounds_toArray, List.set_cons_zero, List.set_cons_succ, List.getElem_toArray, List.getElem_cons_zero, List.getElem_cons_succ]
    refine wpAnyH_take (i := 15) (oi := _) (v := ?_) rfl (by kernel_rfl) (by kernel_rfl) (by kernel_rfl) (fun _ _ _ h => h) (Or.inl ⟨by rfl, ?_⟩) (by assumption) ?_; rotate_left 1; · (intro w hSw; (try dsimp only at hSw); go_simp; first | done | with_reducible rfl)
    try simp only [Act.put, List.setIfInBounds_toArray, List.set_cons_zero, List.set_cons_succ, List.getElem_toArray, List.getElem_cons_zero, List.getElem_cons_succ]
    refine wpAnyH_take (i := 16) (oi := _) (v := ?_) rfl (by kernel_rfl) (by kernel_rfl) (by kernel_rfl) (fun _ _ _ h => h) (Or.inl ⟨by rfl, ?_⟩) (by assumption) ?_; rotate_left 1; · (intro w hSw; (try dsimp only at hSw); go_simp; first | done | with_reducible rfl)
    try simp only [Act.put, List.setIfInBounds_toArray, List.set_cons_zero, List.set_cons_succ, List.getElem_toArray, List.getElem_cons_zero, List.getElem_cons_succ]
    refine wpAnyH_take (i := 17) (oi := _) (v := ?_) rfl (by kernel_rfl) (by kernel_rfl) (by kernel_rfl) (fun _ _ _ h => h) (Or.inl ⟨by rfl, ?_⟩) (by assumption) ?_; rotate_left 1; · (intro w hSw; (try dsimp only at hSw); go_simp; first | done | with_reducible rfl)
    try simp only [Act.put, List.setIfInBounds_toArray, List.set_cons_zero, List.set_cons_succ, List.getElem_toArray, List.getElem_cons_zero, List.getElem_cons_succ]
    refine wpAnyH_ready (rs := [5, 9]) (by kernel_rfl) (by simp) ?_
    refine AllReadyH.cons (o := _) rfl (fun K hK => ?_) (AllReadyH.cons (o := _) rfl (fun K hK => ?_) AllReadyH.nil)
    · go_simp
      refine hK.out _ _ ⟨a1, b1⟩ (fun hHeld => ?_)
      clear hK K
      try simp only [Act.put, List.setIfInBounds_toArray, List.set_cons_zero, List.set_cons_succ]
      refine wpAnyH_ready (rs := [9]) (by kernel_rfl) (by simp) ?_
      refine AllReadyH.cons (o := _) rfl (fun K hK => ?_) AllReadyH.nil
      go_simp
      refine hK.out _ _ ⟨a1, b1⟩ (fun hHeld => ?_)
      clear hK K
      try simp only [Act.put, List.setIfInBounds_toArray, List.set_cons_zero, List.set_cons_succ, List.getElem_toArray, List.getElem_cons_zero, List.getElem_cons_succ]
      refine wpAnyH_ready (rs := [18]) (by kernel_rfl) (by simp) ?_
      refine AllReadyH.cons (o := _) rfl (fun K hK => ?_) AllReadyH.nil
      go_simp; go_at_call 175; (first | (with_reducible refine (HC.out _ HB0.out).mono ?_) | (with_reducible refine (HC.out _ HB0.out.drew).mono ?_)); rintro e w1 ⟨⟨A3, n3, c3, A4, c4, rfl, hs4⟩, hb1⟩; have HS4 := Lib.hid hs4; replace HB0 : Hid (Below w.heap.size w w1) := (by first | exact HB0.out.trans hb1 | exact HB0.out.drew.trans hb1); have HL := Lib.hid hb1.size; clear hs4 hb1; have q1' := (HB0.out.cell (p := ⟨gq, 1, none⟩) hlq).trans q1; have qf1' := (HB0.out.frozen (p := ⟨gq, 1, none⟩) hlq).trans qf1; have r1' := (HB0.out.cell (p := ⟨gr, 1, none⟩) hlr).trans r1; have rf1' := (HB0.out.frozen (p := ⟨gr, 1, none⟩) hlr).trans rf1; have a1' := (HB0.out.cell (p := ⟨ga, 1, none⟩) hla).trans a1; have b1' := (HB0.out.cell (p := ⟨gb, 1, none⟩) hlb).trans b1; have HKq : Hid (∀ v, ((w1.setCell ⟨gq, 1, none⟩ v).cell? ⟨ga, 1, none⟩ = some (.slice A zs.length c) ∧ (w1.setCell ⟨gq, 1, none⟩ v).cell? ⟨gb, 1, none⟩ = some (.slice A2 1 c2))) := Lib.hid fun v => ⟨(cell_setCell_ne _ _ _ _ (Or.inl nqa)).trans a1', (cell_setCell_ne _ _ _ _ (Or.inl nqb)).trans b1'⟩; have HKr : Hid (∀ v u, (((w1.setCell ⟨gq, 1, none⟩ v).setCell ⟨gr, 1, none⟩ u).cell? ⟨ga, 1, none⟩ = some (.slice A zs.length c) ∧ ((w1.setCell ⟨gq, 1, none⟩ v).setCell ⟨gr, 1, none⟩ u).cell? ⟨gb, 1, none⟩ = some (.slice A2 1 c2))) := Lib.hid fun v u => ⟨(cell_setCell_ne _ _ _ _ (Or.inl nra)).trans (HKq.out v).1, (cell_setCell_ne _ _ _ _ (Or.inl nrb)).trans (HKq.out v).2⟩
      refine hK.out _ _ ⟨a1', b1'⟩ (fun hHeld => ?_)
      clear hK K
      try simp only [Act.put, List.setIfInBounds_toArray, List.set_cons_zero, List.set_cons_succ, List.getElem_toArray, List.getElem_cons_zero, List.getElem_cons_succ]
      refine wpAnyH_take (i := 19) (oi := _) (v := ?_) rfl (by kernel_rfl) (by kernel_rfl) (by kernel_rfl) (fun _ _ _ h => h) (Or.inl ⟨by rfl, ?_⟩) (by assumption) ?_; rotate_left 1; · (intro w hSw; (try dsimp only at hSw); go_simp; first | done | with_reducible rfl)
      try simp only [Act.put, List.setIfInBounds_toArray, List.set_cons_zero, List.set_cons_succ, List.getElem_toArray, List.getElem_cons_zero, List.getElem_cons_succ]
      refine wpAnyH_take (i := 20) (oi := _) (v := ?_) rfl (by kernel_rfl) (by kernel_rfl) (by kernel_rfl) (fun _ _ _ h => h) (Or.inl ⟨by rfl, ?_⟩) (by assumption) ?_; rotate_left 1; · (intro w hSw; (try dsimp only at hSw); go_simp; first | done | with_reducible rfl)
      try simp only [Act.put, List.setIfInBounds_toArray, List.set_cons_zero, List.set_cons_succ, List.getElem_toArray, List.getElem_cons_zero, List.getElem_cons_succ]
      refine wpAnyH_take (i := 21) (oi := _) (v := ?_) rfl (by kernel_rfl) (by kernel_rfl) (by kernel_rfl) (fun _ _ _ h => h) (Or.inl ⟨by rfl, ?_⟩) (by assumption) ?_; rotate_left 1; · (intro w hSw; (try dsimp only at hSw); go_simp; first | done | with_reducible rfl)
      try simp only [Act.put, List.setIfInBounds_toArray, List.set_cons_zero, List.set_cons_succ, List.getElem_toArray, List.getElem_cons_zero, List.getElem_cons_succ]
      refine wpAnyH_take (i := 22) (oi := _) (v := ?_) rfl (by kernel_rfl) (by kernel_rfl) (by kernel_rfl) (fun _ _ _ h => h) (Or.inl ⟨by rfl, ?_⟩) (by assumption) ?_; rotate_left 1; · (intro w hSw; (try dsimp only at hSw); go_simp; first | done | with_reducible rfl)
      try simp only [Act.put, List.setIfInBounds_toArray, List.set_cons_zero, List.set_cons_succ, List.getElem_toArray, List.getElem_cons_zero, List.getElem_cons_succ]
      refine wpAnyH_take (i := 23) (oi := _) (v := ?_) rfl (by kernel_rfl) (by kernel_rfl) (by kernel_rfl) (fun _ _ _ h => h) (Or.inl ⟨by rfl, ?_⟩) (by assumption) ?_; rotate_left 1; · (intro w hSw; (try dsimp only at hSw); go_simp; first | done | with_reducible rfl)
      try simp only [Act.put, List.setIfInBounds_toArray, List.set_cons_zero, List.set_cons_succ, List.getElem_toArray, List.getElem_cons_zero, List.getElem_cons_succ]
      refine wpAnyH_ready (rs := [24]) (by kernel_rfl) (by simp) ?_
      refine AllReadyH.cons (o := _) rfl (fun K hK => ?_) AllReadyH.nil
      go_simp
      refine hK.out _ _ (HKq.out _) (fun hHeld => ?_)
      clear hK K
      try simp only [Act.put, List.setIfInBounds_toArray, List.set_cons_zero, List.set_cons_succ, List.getElem_toArray, List.getElem_cons_zero, List.getElem_cons_succ]
      refine wpAnyH_take (i := 25) (oi := _) (v := ?_) rfl (by kernel_rfl) (by kernel_rfl) (by kernel_rfl) (fun _ _ _ h => h) (Or.inl ⟨by rfl, ?_⟩) (by assumption) ?_; rotate_left 1; · (intro w hSw; (try dsimp only at hSw); go_simp; first | done | with_reducible rfl)
      try simp only [Act.put, List.setIfInBounds_toArray, List.set_cons_zero, List.set_cons_succ, List.getElem_toArray, List.getElem_cons_zero, List.getElem_cons_succ]
      refine wpAnyH_take (i := 26) (oi := _) (v := ?_) rfl (by kernel_rfl) (by kernel_rfl) (by kernel_rfl) (fun _ _ _ h => h) (Or.inl ⟨by rfl, ?_⟩) (by assumption) ?_; rotate_left 1; · (intro w hSw; (try dsimp only at hSw); go_simp; first | done | with_reducible rfl)
      try simp only [Act.put, List.setIfInBounds_toArray, List.set_cons_zero, List.set_cons_succ, List.getElem_toArray, List.getElem_cons_zero, List.getElem_cons_succ]
      refine wpAnyH_ready (rs := [27]) (by kernel_rfl) (by simp) ?_
      refine AllReadyH.cons (o := _) rfl (fun K hK => ?_) AllReadyH.nil
      go_simp
      refine hK.out _ _ (HKr.out _ _) (fun hHeld => ?_)
      clear hK K
      try simp only [Act.put, List.setIfInBounds_toArray, List.set_cons_zero, List.set_cons_succ, List.getElem_toArray, List.getElem_cons_zero, List.getElem_cons_succ]
      refine wpAnyH_done (by kernel_rfl) ?_ _
      (go_wp2_with fail; go_meet; exact ⟨A3, n3, c3, A4, c4, blk_far (blk_put (blk_keepH HQ.out HB0.out hlq) 1 _ rfl) (by show gq ≠ gr; omega) _, blk_put (blk_far (blk_keepH HR.out HB0.out hlr) (by show gr ≠ gq; omega) _) 1 _ rfl, Lib.hid (((HS4.out.mono (by have := HL0.out; show _ ≤ w.heap.size; omega)).setCell (p := ⟨gq, 1, none⟩) _ (by show gq < gr + 1; omega)).setCell (p := ⟨gr, 1, none⟩) _ (by show gr < gr + 1; omega)), Lib.hid (((HB0.out.mono (Nat.le_of_lt hlq)).setCell (Nat.le_refl _) _).setCell (by show gq ≤ gr; omega) _)⟩)
    · go_simp
      refine hK.out _ _ ⟨a1, b1⟩ (fun hHeld => ?_)
      clear hK K
      try simp only [Act.put, List.setIfInBounds_toArray, List.set_cons_zero, List.set_cons_succ]
      refine wpAnyH_ready (rs := [5]) (by kernel_rfl) (by simp) ?_
      refine AllReadyH.cons (o := _) rfl (fun K hK => ?_) AllReadyH.nil
      go_simp
      refine hK.out _ _ ⟨a1, b1⟩ (fun hHeld => ?_)
      clear hK K
      try simp only [Act.put, List.setIfInBounds_toArray, List.set_cons_zero, List.set_cons_succ, List.getElem_toArray, List.getElem_cons_zero, List.getElem_cons_succ]
      refine wpAnyH_ready (rs := [18]) (by kernel_rfl) (by simp) ?_
      refine AllReadyH.cons (o := _) rfl (fun K hK => ?_) AllReadyH.nil
      go_simp; go_at_call 175; (first | (with_reducible refine (HC.out _ HB0.out).mono ?_) | (with_reducible refine (HC.out _ HB0.out.drew).mono ?_)); rintro e w1 ⟨⟨A3, n3, c3, A4, c4, rfl, hs4⟩, hb1⟩; have HS4 := Lib.hid hs4; replace HB0 : Hid (Below w.heap.size w w1) := (by first | exact HB0.out.trans hb1 | exact HB0.out.drew.trans hb1); have HL := Lib.hid hb1.size; clear hs4 hb1; have q1' := (HB0.out.cell (p := ⟨gq, 1, none⟩) hlq).trans q1; have qf1' := (HB0.out.frozen (p := ⟨gq, 1, none⟩) hlq).trans qf1; have r1' := (HB0.out.cell (p := ⟨gr, 1, none⟩) hlr).trans r1; have rf1' := (HB0.out.frozen (p := ⟨gr, 1, none⟩) hlr).trans rf1; have a1' := (HB0.out.cell (p := ⟨ga, 1, none⟩) hla).trans a1; have b1' := (HB0.out.cell (p := ⟨gb, 1, none⟩) hlb).trans b1; have HKq : Hid (∀ v, ((w1.setCell ⟨gq, 1, none⟩ v).cell? ⟨ga, 1, none⟩ = some (.slice A zs.length c) ∧ (w1.setCell ⟨gq, 1, none⟩ v).cell? ⟨gb, 1, none⟩ = some (.slice A2 1 c2))) := Lib.hid fun v => ⟨(cell_setCell_ne _ _ _ _ (Or.inl nqa)).trans a1', (cell_setCell_ne _ _ _ _ (Or.inl nqb)).trans b1'⟩; have HKr : Hid (∀ v u, (((w1.setCell ⟨gq, 1, none⟩ v).setCell ⟨gr, 1, none⟩ u).cell? ⟨ga, 1, none⟩ = some (.slice A zs.length c) ∧ ((w1.setCell ⟨gq, 1, none⟩ v).setCell ⟨gr, 1, none⟩ u).cell? ⟨gb, 1, none⟩ = some (.slice A2 1 c2))) := Lib.hid fun v u => ⟨(cell_setCell_ne _ _ _ _ (Or.inl nra)).trans (HKq.out v).1, (cell_setCell_ne _ _ _ _ (Or.inl nrb)).trans (HKq.out v).2⟩
      refine hK.out _ _ ⟨a1', b1'⟩ (fun hHeld => ?_)
      clear hK K
      try simp only [Act.put, List.setIfInBounds_toArray, List.set_cons_zero, List.set_cons_succ, List.getElem_toArray, List.getElem_cons_zero, List.getElem_cons_succ]
      refine wpAnyH_take (i := 19) (oi := _) (v := ?_) rfl (by kernel_rfl) (by kernel_rfl) (by kernel_rfl) (fun _ _ _ h => h) (Or.inl ⟨by rfl, ?_⟩) (by assumption) ?_; rotate_left 1; · (intro w hSw; (try dsimp only at hSw); go_simp; first | done | with_reducible rfl)
      try simp only [Act.put, List.setIfInBounds_toArray, List.set_cons_zero, List.set_cons_succ, List.getElem_toArray, List.getElem_cons_zero, List.getElem_cons_succ]
      refine wpAnyH_take (i := 20) (oi := _) (v := ?_) rfl (by kernel_rfl) (by kernel_rfl) (by kernel_rfl) (fun _ _ _ h => h) (Or.inl ⟨by rfl, ?_⟩) (by assumption) ?_; rotate_left 1; · (intro w hSw; (try dsimp only at hSw); go_simp; first | done | with_reducible rfl)
      try simp only [Act.put, List.setIfInBounds_toArray, List.set_cons_zero, List.set_cons_succ, List.getElem_toArray, List.getElem_cons_zero, List.getElem_cons_succ]
      refine wpAnyH_take (i := 21) (oi := _) (v := ?_) rfl (by kernel_rfl) (by kernel_rfl) (by kernel_rfl) (fun _ _ _ h => h) (Or.inl ⟨by rfl, ?_⟩) (by assumption) ?_; rotate_left 1; · (intro w hSw; (try dsimp only at hSw); go_simp; first | done | with_reducible rfl)
      try simp only [Act.put, List.setIfInBounds_toArray, List.set_cons_zero, List.set_cons_succ, List.getElem_toArray, List.getElem_cons_zero, List.getElem_cons_succ]
      refine wpAnyH_take (i := 22) (oi := _) (v := ?_) rfl (by kernel_rfl) (by kernel_rfl) (by kernel_rfl) (fun _ _ _ h => h) (Or.inl ⟨by rfl, ?_⟩) (by assumption) ?_; rotate_left 1; · (intro w hSw; (try dsimp only at hSw); go_simp; first | done | with_reducible rfl)
      try simp only [Act.put, List.setIfInBounds_toArray, List.set_cons_zero, List.set_cons_succ, List.getElem_toArray, List.getElem_cons_zero, List.getElem_cons_succ]
      refine wpAnyH_take (i := 23) (oi := _) (v := ?_) rfl (by kernel_rfl) (by kernel_rfl) (by kernel_rfl) (fun _ _ _ h => h) (Or.inl ⟨by rfl, ?_⟩) (by assumption) ?_; rotate_left 1; · (intro w hSw; (try dsimp only at hSw); go_simp; first | done | with_reducible rfl)
      try simp only [Act.put, List.setIfInBounds_toArray, List.set_cons_zero, List.set_cons_succ, List.getElem_toArray, List.getElem_cons_zero, List.getElem_cons_succ]
      refine wpAnyH_ready (rs := [24]) (by kernel_rfl) (by simp) ?_
      refine AllReadyH.cons (o := _) rfl (fun K hK => ?_) AllReadyH.nil
      go_simp
      refine hK.out _ _ (HKq.out _) (fun hHeld => ?_)
      clear hK K
      try simp only [Act.put, List.setIfInBounds_toArray, List.set_cons_zero, List.set_cons_succ, List.getElem_toArray, List.getElem_cons_zero, List.getElem_cons_succ]
      refine wpAnyH_take (i := 25) (oi := _) (v := ?_) rfl (by kernel_rfl) (by kernel_rfl) (by kernel_rfl) (fun _ _ _ h => h) (Or.inl ⟨by rfl, ?_⟩) (by assumption) ?_; rotate_left 1; · (intro w hSw; (try dsimp only at hSw); go_simp; first | done | with_reducible rfl)
      try simp only [Act.put, List.setIfInBounds_toArray, List.set_cons_zero, List.set_cons_succ, List.getElem_toArray, List.getElem_cons_zero, List.getElem_cons_succ]
      refine wpAnyH_take (i := 26) (oi := _) (v := ?_) rfl (by kernel_rfl) (by kernel_rfl) (by kernel_rfl) (fun _ _ _ h => h) (Or.inl ⟨by rfl, ?_⟩) (by assumption) ?_; rotate_left 1; · (intro w hSw; (try dsimp only at hSw); go_simp; first | done | with_reducible rfl)
      try simp only [Act.put, List.setIfInBounds_toArray, List.set_cons_zero, List.set_cons_succ, List.getElem_toArray, List.getElem_cons_zero, List.getElem_cons_succ]
      refine wpAnyH_ready (rs := [27]) (by kernel_rfl) (by simp) ?_
      refine AllReadyH.cons (o := _) rfl (fun K hK => ?_) AllReadyH.nil
      go_simp
      refine hK.out _ _ (HKr.out _ _) (fun hHeld => ?_)
      clear hK K
      try simp only [Act.put, List.setIfInBounds_toArray, List.set_cons_zero, List.set_cons_succ, List.getElem_toArray, List.getElem_cons_zero, List.getElem_cons_succ]
      refine wpAnyH_done (by kernel_rfl) ?_ _
      (go_wp2_with fail; go_meet; exact ⟨A3, n3, c3, A4, c4, blk_far (blk_put (blk_keepH HQ.out HB0.out hlq) 1 _ rfl) (by show gq ≠ gr; omega) _, blk_put (blk_far (blk_keepH HR.out HB0.out hlr) (by show gr ≠ gq; omega) _) 1 _ rfl, Lib.hid (((HS4.out.mono (by have := HL0.out; show _ ≤ w.heap.size; omega)).setCell (p := ⟨gq, 1, none⟩) _ (by show gq < gr + 1; omega)).setCell (p := ⟨gr, 1, none⟩) _ (by show gr < gr + 1; omega)), Lib.hid (((HB0.out.mono (Nat.le_of_lt hlq)).setCell (Nat.le_refl _) _).setCell (by show gq ≤ gr; omega) _)⟩)
  case rest =>
    obtain ⟨A3, n3, c3, A4, c4, hq2, hr2, HS4, HBX⟩ := hcut
    clear a0 a1 b0 b1 q0 q1 r0 r1 qf0 qf1 rf0 rf1 HQ HR HL0 HB0 hla hlb hlq hlr
    have q0 : wc.cell? ⟨gq, 0, none⟩ = some (.bool false) := blk_cell hq2 0 _ rfl
    have q1 : wc.cell? ⟨gq, 1, none⟩ = some (.slice A3 n3 c3) := blk_cell hq2 1 _ rfl
    have qf0 := blk_free hq2 0
    have r0 : wc.cell? ⟨gr, 0, none⟩ = some (.bool false) := blk_cell hr2 0 _ rfl
    have r1 : wc.cell? ⟨gr, 1, none⟩ = some (.slice A4 rl.length c4) := blk_cell hr2 1 _ rfl
    have rf0 := blk_free hr2 0
    have a0 : wc.cell? ⟨ga, 0, none⟩ = some (.bool false) := (HBX.out.cell (p := ⟨ga, 0, none⟩) ne1).trans HA0.out
    have b0 : wc.cell? ⟨gb, 0, none⟩ = some (.bool false) := (HBX.out.cell (p := ⟨gb, 0, none⟩) ne2).trans HA1.out
    have HQ2 := Lib.hid hq2
    have HR2 := Lib.hid hr2
    clear hq2 hr2 HC
    have HEnd : Hid (∀ b1 : Bool, BI ((wc.setCell ⟨gq, 0, none⟩ (.bool b1)).setCell ⟨gr, 0, none⟩ (.bool false)) gr false (.slice A4 rl.length c4) rl ∧ Below gq w ((wc.setCell ⟨gq, 0, none⟩ (.bool b1)).setCell ⟨gr, 0, none⟩ (.bool false))) := Lib.hid fun b1 =>
      ⟨⟨blk_put (blk_far HR2.out (by show gr ≠ gq; omega) _) 0 _ rfl, (HS4.out.setCell (p := ⟨gq, 0, none⟩) _ (by show gq < gr + 1; omega)).setCell (p := ⟨gr, 0, none⟩) _ (by show gr < gr + 1; omega), HW.out.1, HW.out.2⟩, (HBX.out.setCell (Nat.le_refl _) _).setCell (by show gq ≤ gr; omega) _⟩
    have HK1 : Hid (∀ u, ((wc.setCell ⟨gq, 0, none⟩ u).cell? ⟨gq, 1, none⟩ = some (.slice A3 n3 c3) ∧ (wc.setCell ⟨gq, 0, none⟩ u).cell? ⟨gr, 1, none⟩ = some (.slice A4 rl.length c4) ∧ (wc.setCell ⟨gq, 0, none⟩ u).cell? ⟨ga, 0, none⟩ = some (.bool false) ∧ (wc.setCell ⟨gq, 0, none⟩ u).cell? ⟨gb, 0, none⟩ = some (.bool false))) := Lib.hid fun u => ⟨(cell_setCell_ne _ _ _ _ (Or.inr (by show 0 ≠ 1; omega))).trans q1, (cell_setCell_ne _ _ _ _ (Or.inl (by show gq ≠ gr; omega))).trans r1, (cell_setCell_ne _ _ _ _ (Or.inl nqa)).trans a0, (cell_setCell_ne _ _ _ _ (Or.inl nqb)).trans b0⟩
    have HK2 : Hid (∀ u v, (((wc.setCell ⟨gq, 0, none⟩ u).setCell ⟨gr, 0, none⟩ v).cell? ⟨gq, 1, none⟩ = some (.slice A3 n3 c3) ∧ ((wc.setCell ⟨gq, 0, none⟩ u).setCell ⟨gr, 0, none⟩ v).cell? ⟨gr, 1, none⟩ = some (.slice A4 rl.length c4) ∧ ((wc.setCell ⟨gq, 0, none⟩ u).setCell ⟨gr, 0, none⟩ v).cell? ⟨ga, 0, none⟩ = some (.bool false) ∧ ((wc.setCell ⟨gq, 0, none⟩ u).setCell ⟨gr, 0, none⟩ v).cell? ⟨gb, 0, none⟩ = some (.bool false))) := Lib.hid fun u v => ⟨(cell_setCell_ne _ _ _ _ (Or.inl (by show gr ≠ gq; omega))).trans (HK1.out u).1, (cell_setCell_ne _ _ _ _ (Or.inr (by show 0 ≠ 1; omega))).trans (HK1.out u).2.1, (cell_setCell_ne _ _ _ _ (Or.inl nra)).trans (HK1.out u).2.2.1, (cell_setCell_ne _ _ _ _ (Or.inl nrb)).trans (HK1.out u).2.2.2⟩
    rcases Nat.eq_zero_or_pos n3 with hn3 | hn3
    all_goals rcases Nat.eq_zero_or_pos rl.length with hl3 | hl3
    case inr.inr =>
      obtain ⟨g1, g3⟩ := dec_yes hn3
      obtain ⟨g2, g4⟩ := dec_yes hl3
      clear hn3 hl3
      go_wp2_with fail
      go_region_held3 (fun w' => w'.cell? ⟨gq, 1, none⟩ = some (.slice A3 n3 c3) ∧ w'.cell? ⟨gr, 1, none⟩ = some (.slice A4 rl.length c4) ∧ w'.cell? ⟨ga, 0, none⟩ = some (.bool false) ∧ w'.cell? ⟨gb, 0, none⟩ = some (.bool false)) (first | exact HK1.out _ | exact HK2.out _ _ | go_keep) (fail)
      all_goals go_wp2
      all_goals go_ret2
      all_goals first | exact ⟨rfl, ⟨_, (HEnd.out _).1⟩, (HEnd.out _).2⟩ | exact ⟨rfl, ⟨_, (HEnd.out _).1.drew⟩, (HEnd.out _).2.drew⟩
    case inl.inl =>
      obtain ⟨g1, g3⟩ := dec_no hn3
      obtain ⟨g2, g4⟩ := dec_no hl3
      clear hn3 hl3
      go_wp2_with fail
      go_region
      all_goals go_wp2
      all_goals go_ret2
      all_goals first | exact ⟨rfl, ⟨_, (HEnd.out _).1⟩, (HEnd.out _).2⟩ | exact ⟨rfl, ⟨_, (HEnd.out _).1.drew⟩, (HEnd.out _).2.drew⟩
    case inl.inr =>
      obtain ⟨g1, g3⟩ := dec_no hn3
      obtain ⟨g2, g4⟩ := dec_yes hl3
      clear hn3 hl3
      go_wp2_with fail
      go_region
      all_goals go_wp2
      all_goals go_ret2
      all_goals first | exact ⟨rfl, ⟨_, (HEnd.out _).1⟩, (HEnd.out _).2⟩ | exact ⟨rfl, ⟨_, (HEnd.out _).1.drew⟩, (HEnd.out _).2.drew⟩
    case inr.inl =>
      obtain ⟨g1, g3⟩ := dec_yes hn3
      obtain ⟨g2, g4⟩ := dec_no hl3
      clear hn3 hl3
      go_wp2_with fail
      go_region
      all_goals go_wp2
      all_goals go_ret2
      all_goals first | exact ⟨rfl, ⟨_, (HEnd.out _).1⟩, (HEnd.out _).2⟩ | exact ⟨rfl, ⟨_, (HEnd.out _).1.drew⟩, (HEnd.out _).2.drew⟩
end Go.Proofs.YtkplnbjgkhmbcaaGreatDoor
