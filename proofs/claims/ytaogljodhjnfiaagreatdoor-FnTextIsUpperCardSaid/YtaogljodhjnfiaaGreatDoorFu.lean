/- spec.Asked(s, "isupper"). -/
import Derived.Test.YtaogljodhjnfiaaGreatDoorCu
import Derived.Deep.DeepCutAuto
namespace Go.Proofs.YtaogljodhjnfiaaGreatDoor
open Go.RowKit
set_option linter.unusedVariables false

set_option maxRecDepth 100000 in
set_option maxHeartbeats 1000000 in
theorem method_isupper (s : ByteArray) (w : World) (hs : s.size ≤ 60) :
    Calls Tryz.prog 7 #[.string s, .string isupperName, .slice none 0 0] w fun e w' => e = .returned (.tuple #[boolVal (noLo s.data.toList && anyUp s.data.toList), .bool true]) ∧ Below w.heap.size w w' := by
  unfold isupperName
  go_enter Tryz.func7, Tryz.ntmps7
  go_wp2_with fail
  refine (cases_isupper s _ hs).mono ?_
  rintro e w1 ⟨rfl, hb1⟩
  have hb1' : Below (w.heap.size + 1) (w.alloc zeroVal) w1 := by simpa [zeroVal] using hb1
  obtain ⟨q0, q1, q2, q3, q4, q5, hf, hsz⟩ := zeroVal_cells hb1'
  have f0 := hf 0
  have f1 := hf 1
  have f2 := hf 2
  have f3 := hf 3
  have f4 := hf 4
  have f5 := hf 5
  have HB := Lib.hid hb1'
  clear hf hb1' hb1
  generalize htl : (noLo s.data.toList && anyUp s.data.toList) = tl
  have HTL := Lib.hid htl
  clear htl
  go_wp2
  refine bodyPost_ret (v := .tuple #[boolVal tl, .bool true]) (by simp [results, Tryz.results7, go_sem, q0, q1, q2, q3, q4, q5]) rfl ⟨by rw [HTL.out], ?_⟩
  have hbb : Below w.heap.size w w1 := ((Below.refl w.heap.size w).alloc (Nat.le_refl _) zeroVal).trans (HB.out.mono (by omega))
  exact (((((hbb.setCell (Nat.le_refl _) _).setCell (Nat.le_refl _) _).setCell (Nat.le_refl _) _).setCell (Nat.le_refl _) _).setCell (Nat.le_refl _) _).setCell (Nat.le_refl _) _

theorem cell_setCell_off (w : World) (b i j : Nat) (v : Value) (h : i ≠ j) : (w.setCell ⟨b, i, none⟩ v).cell? ⟨b, j, none⟩ = w.cell? ⟨b, j, none⟩ :=
  cell_setCell_ne w ⟨b, i, none⟩ ⟨b, j, none⟩ v (Or.inr h)

/-- Six cells of a block stored one behind the other: the world behind it, by what it is good for. -/
theorem put6_facts (w : World) (b : Nat) (v0 v1 v2 v3 v4 v5 : Value) {u0 u1 u2 u3 u4 u5 : Value} (q0 : w.cell? ⟨b, 0, none⟩ = some u0) (q1 : w.cell? ⟨b, 1, none⟩ = some u1)
    (q2 : w.cell? ⟨b, 2, none⟩ = some u2) (q3 : w.cell? ⟨b, 3, none⟩ = some u3) (q4 : w.cell? ⟨b, 4, none⟩ = some u4) (q5 : w.cell? ⟨b, 5, none⟩ = some u5) :
    ∃ w2, w2 = (((((w.setCell ⟨b, 0, none⟩ v0).setCell ⟨b, 1, none⟩ v1).setCell ⟨b, 2, none⟩ v2).setCell ⟨b, 3, none⟩ v3).setCell ⟨b, 4, none⟩ v4).setCell ⟨b, 5, none⟩ v5 ∧
    w2.cell? ⟨b, 0, none⟩ = some v0 ∧ w2.cell? ⟨b, 1, none⟩ = some v1 ∧ w2.cell? ⟨b, 2, none⟩ = some v2 ∧ w2.cell? ⟨b, 3, none⟩ = some v3 ∧ w2.cell? ⟨b, 4, none⟩ = some v4 ∧ w2.cell? ⟨b, 5, none⟩ = some v5 ∧
    (∀ q, w2.frozen? q = w.frozen? q) ∧ w2.heap.size = w.heap.size ∧ (∀ B a, B ≤ b → Below B a w → Below B a w2) := by
  have o := @cell_setCell_off
  refine ⟨_, rfl, ?_, ?_, ?_, ?_, ?_, ?_, ?_, ?_, ?_⟩
  · rw [o _ _ _ _ _ (by omega), o _ _ _ _ _ (by omega), o _ _ _ _ _ (by omega), o _ _ _ _ _ (by omega), o _ _ _ _ _ (by omega), cell_setCell_eq _ _ _ _ _ q0]
  · rw [o _ _ _ _ _ (by omega), o _ _ _ _ _ (by omega), o _ _ _ _ _ (by omega), o _ _ _ _ _ (by omega), cell_setCell_eq _ _ _ u1]
    rw [o _ _ _ _ _ (by omega), q1]
  · rw [o _ _ _ _ _ (by omega), o _ _ _ _ _ (by omega), o _ _ _ _ _ (by omega), cell_setCell_eq _ _ _ u2]
    rw [o _ _ _ _ _ (by omega), o _ _ _ _ _ (by omega), q2]
  · rw [o _ _ _ _ _ (by omega), o _ _ _ _ _ (by omega), cell_setCell_eq _ _ _ u3]
    rw [o _ _ _ _ _ (by omega), o _ _ _ _ _ (by omega), o _ _ _ _ _ (by omega), q3]
  · rw [o _ _ _ _ _ (by omega), cell_setCell_eq _ _ _ u4]
    rw [o _ _ _ _ _ (by omega), o _ _ _ _ _ (by omega), o _ _ _ _ _ (by omega), o _ _ _ _ _ (by omega), q4]
  · rw [cell_setCell_eq _ _ _ u5]
    rw [o _ _ _ _ _ (by omega), o _ _ _ _ _ (by omega), o _ _ _ _ _ (by omega), o _ _ _ _ _ (by omega), o _ _ _ _ _ (by omega), q5]
  · intro q; simp only [frozen_setCell]
  · simp [World.setCell]
  · intro B a hB h
    exact (((((h.setCell hB _).setCell hB _).setCell hB _).setCell hB _).setCell hB _).setCell hB _

set_option maxRecDepth 100000 in
set_option maxHeartbeats 1000000 in
theorem asked_isupper (s : ByteArray) (w : World) (hs : s.size ≤ 60) :
    Calls Tryz.prog 5 #[.string s, .string isupperName, .slice none 0 0] w fun e w' => e = .returned (.tuple #[boolVal (noLo s.data.toList && anyUp s.data.toList), .slice none 0 0, .bool true]) ∧ Below w.heap.size w w' := by
  unfold isupperName
  go_enter Tryz.func5, Tryz.ntmps5
  go_wp2_with fail
  refine (method_isupper s _ hs).mono ?_
  rintro e w1 ⟨rfl, hb1⟩
  have hb1' : Below (w.heap.size + 1) (w.alloc zeroVal) w1 := by simpa [zeroVal] using hb1
  obtain ⟨q0, q1, q2, q3, q4, q5, hf, hsz⟩ := zeroVal_cells hb1'
  have f0 := hf 0
  have f1 := hf 1
  have f2 := hf 2
  have f3 := hf 3
  have f4 := hf 4
  have f5 := hf 5
  have HB := Lib.hid hb1'
  clear hf hb1' hb1
  generalize htl : (noLo s.data.toList && anyUp s.data.toList) = tl
  have HTL := Lib.hid htl
  clear htl
  go_upto_region 2 with (fail)
  obtain ⟨w2, hw2, p0, p1, p2, p3, p4, p5, pf, psz, pb⟩ := put6_facts w1 w.heap.size (.int .i64 1) (.bool false) (.slice none 0 0) (.int .u64 (cond tl 1 0)) (.string ⟨#[]⟩) (.slice none 0 0) q0 q1 q2 q3 q4 q5
  have g0 := (pf _).trans f0
  have g1 := (pf _).trans f1
  have g2 := (pf _).trans f2
  have g3 := (pf _).trans f3
  have g4 := (pf _).trans f4
  have g5 := (pf _).trans f5
  have hbb := pb w.heap.size w (Nat.le_refl _) (((Below.refl w.heap.size w).alloc (Nat.le_refl _) zeroVal).trans (HB.out.mono (by omega)))
  rw [← hw2]
  clear pf pb psz q0 q1 q2 q3 q4 q5 f0 f1 f2 f3 f4 f5 hw2 HB hsz
  go_wp2
  refine wp_loop_rounds 1 ?_
  rw [rounds_succ]
  go_wp2
  refine bodyPost_ret (v := .tuple #[boolVal tl, .slice none 0 0, .bool true]) (by simp [results, Tryz.results5, go_sem, p0, p1, p2, p3, p4, p5]) rfl ⟨by rw [HTL.out], ?_⟩
  exact (((((hbb.setCell (Nat.le_refl _) _).setCell (Nat.le_refl _) _).setCell (Nat.le_refl _) _).setCell (Nat.le_refl _) _).setCell (Nat.le_refl _) _).setCell (Nat.le_refl _) _

end Go.Proofs.YtaogljodhjnfiaaGreatDoor
