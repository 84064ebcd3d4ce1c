/- bigall's nat: norm, make, and the words of bytes. -/
import Derived.Test.YtkkmnglnnfmnaaaGreatDoorIBase
import Derived.Test.YtkkmnglnnfmnaaaGreatDoorNum
import Derived.RegionTactic
import Derived.Laws.OwnMore
import Derived.Deep.QuietTactic
namespace Go.Proofs.YtkkmnglnnfmnaaaGreatDoor
open Go.RowKit
set_option linter.unusedVariables false

set_option maxRecDepth 100000 in
set_option maxHeartbeats 1000000 in
/-- nat.norm of a row in memory: the slice cut behind the last word that is not 0. -/
theorem norm_row (b o c : Nat) (l : List Int) (w : World) (hc : l.length ≤ c) (hm : c ≤ 140737488355328) (hcell : ∀ j (h : j < l.length), w.cell? ⟨b, o + j, none⟩ = some (.int .u64 l[j])) :
    Calls Tryz.prog 48 #[.slice (some ⟨b, o, none⟩) l.length c] w fun e w' => w = w' ∧ ∃ i, i ≤ l.length ∧ (∀ j (hj : j < l.length), i ≤ j → l[j] = 0) ∧ (∀ h : 0 < i, ∀ hl : i - 1 < l.length, l[i - 1] ≠ 0) ∧ e = .returned (.slice (some ⟨b, o, none⟩) i c) := by
  have HC := Lib.hid hcell
  clear hcell
  go_enter Tryz.func48, Tryz.ntmps48
  go_wp2
  go_loop [3] (fun v => ∃ i : Nat, i ≤ l.length ∧ v = .int .i64 i ∧ Hid (∀ j (hj : j < l.length), i ≤ j → l[j] = 0)) (fun v => (intOf v).toNat)
  case atStart => exact ⟨l.length, Nat.le_refl _, rfl, fun j hj h => by omega⟩
  case round =>
    obtain ⟨i, hi, rfl, hz⟩ := hrel
    rcases i with _ | j
    · go_wp2
      go_ret
      exact ⟨rfl, 0, by omega, hz.out, fun h => by omega, rfl⟩
    · have hj : j < l.length := by omega
      have hcj := HC.out j hj
      by_cases h0 : l[j] = 0
      · have h0b : (l[j] == 0) = true := by simp [h0]
        have HZ : Hid (∀ q (hq : q < l.length), j ≤ q → l[q] = 0) := by
          intro q hq hle
          by_cases e : q = j
          · subst e; exact h0
          · exact hz q hq (by omega)
        clear h0 hz
        go_wp2
        go_round
        case rel => exact ⟨j, by omega, by go_num, HZ⟩
        case measure => simp [intOf]
      · have h0b : (l[j] == 0) = false := by simp [h0]
        have H0 := Lib.hid h0
        clear h0
        go_wp2
        go_ret
        exact ⟨rfl, j + 1, by omega, hz.out, fun _ _ => H0.out, rfl⟩

theorem wordInfo : (Tryz.prog.info? 127).map (fun i => (i.zero, i.size, i.bytes)) = some (some (.int .u64 0), 1, 8) := by kernel_rfl

theorem irow_zeros (w : World) (k : IntKind) (n m : Nat) (e : TypeId) (h : n ≤ m) : IRow k (w.alloc (.cells (madeCells #[.int k 0] m) e)) w.heap.size (List.replicate n 0) := by
  refine ⟨fun j hj => ?_, fun j hj => ?_⟩
  · rw [List.length_replicate] at hj
    rw [World.cell?_alloc_mark, List.getElem_replicate]
    rw [← Array.getElem?_toList, toList_madeCells_one, List.getElem?_replicate, if_pos (by omega)]
  · rw [World.frozen?_alloc_mark]; simp

set_option maxRecDepth 100000 in
/-- nat.make of no words, onto nil. -/
theorem make_nil0 (w : World) : Calls Tryz.prog 46 #[.slice none 0 0, .int .i64 0] w fun e w' => e = .returned (.slice none 0 0) ∧ w = w' := by
  go_enter Tryz.func46, Tryz.ntmps46
  go_wp2
  go_ret
  exact ⟨rfl, rfl⟩

set_option maxRecDepth 100000 in
/-- nat.make of n words, n not 0, onto nil: a new row of zeros. -/
theorem make_nil (n : Nat) (w : World) (h0 : 0 < n) (h1 : n ≤ 4398046511104) :
    Calls Tryz.prog 46 #[.slice none 0 0, .int .i64 n] w fun e w' =>
      ∃ c, e = .returned (.slice (some ⟨w.heap.size, 0, none⟩) n c) ∧ n ≤ c ∧ c ≤ n + 4 ∧ IRow .u64 w' w.heap.size (List.replicate n 0) ∧ Below w.heap.size w w' ∧ w'.heap.size = w.heap.size + 1 := by
  obtain ⟨i, hi, hzz⟩ := Option.map_eq_some_iff.1 wordInfo
  simp only [Prod.mk.injEq] at hzz
  obtain ⟨hz, hs, hb⟩ := hzz
  have hmk := fun (l c : Int) (h0 : 0 ≤ l) (hlc : l ≤ c) (hc : c ≤ 4398046511200) (w : World) => run_make (P := Tryz.prog) w 108 127 i (.int .u64 0) Tryz.underlying108 hi hz .i64 .i64 l c h0 hlc (by rw [hb]; omega) (by omega)
  simp only [hs, Nat.mul_one] at hmk
  have hcl : (Value.int .u64 0).cells = #[.int .u64 0] := rfl
  rw [hcl] at hmk
  have m1 := hmk 1 1 (by omega) (by omega) (by omega)
  have m2 := hmk n (n + 4) (by omega) (by omega) (by omega)
  rw [show ((n : Int) + 4).toNat = n + 4 from by omega, Int.toNat_natCast] at m2
  clear hmk hcl hs hb hi hz
  by_cases h : n = 1
  · subst h
    go_enter Tryz.func46, Tryz.ntmps46
    go_wp2
    go_ret
    exact ⟨1, rfl, by omega, by omega, irow_zeros w .u64 1 _ _ (by decide), (Below.refl _ w).alloc (Nat.le_refl _) _, by simp⟩
  · have hb1 : ((n : Int) == 1) = false := by simp; omega
    go_enter Tryz.func46, Tryz.ntmps46
    go_wp2
    go_ret
    exact ⟨n + 4, rfl, by omega, by omega, irow_zeros w .u64 n _ _ (by omega), (Below.refl _ w).alloc (Nat.le_refl _) _, by simp⟩
end Go.Proofs.YtkkmnglnnfmnaaaGreatDoor
