/- Letters of a text, the empty value and the values of a truth, as the walks of spec.cases use them. -/
import Derived.Test.YtaogljodhjnfiaaGreatDoorB
namespace Go.Proofs.YtaogljodhjnfiaaGreatDoor
open Go.RowKit
set_option linter.unusedVariables false

/-- The three kinds of a byte, for the walk. -/
theorem kinds3 (c : Int) : (upB c = true ∧ loB c = false ∧ 65 ≤ c ∧ c ≤ 90) ∨ (upB c = false ∧ loB c = true ∧ 97 ≤ c ∧ c ≤ 122) ∨ (upB c = false ∧ loB c = false) := by
  by_cases h1 : upB c = true
  · left; simp [upB] at h1; simp [upB, loB]; omega
  · by_cases h2 : loB c = true
    · right; left; simp [loB] at h2; simp [upB, loB]; omega
    · right; right; simp_all

theorem sub32 (c : UInt8) (h : loB c.toNat = true) : (c.toNat : Int) - 32 = ((c - 32).toNat : Int) := by
  simp [loB] at h
  have : (c - 32).toNat = c.toNat - 32 := by
    rw [UInt8.toNat_sub_of_le]; rfl
    rw [UInt8.le_iff_toNat_le]; simp; omega
  rw [this]; omega
theorem add32 (c : UInt8) (h : upB c.toNat = true) : (c.toNat : Int) + 32 = ((c + 32).toNat : Int) := by
  simp [upB] at h
  rw [UInt8.toNat_add]
  simp
  omega

def zeroVal : Obj := .cells #[.int .i64 0, .bool false, .slice none 0 0, .int .u64 0, .string ⟨#[]⟩, .slice none 0 0] 27

theorem zeroVal_cells {w wr : World} (hb : Below (w.heap.size + 1) (w.alloc zeroVal) wr) :
    wr.cell? ⟨w.heap.size, 0, none⟩ = some (.int .i64 0) ∧ wr.cell? ⟨w.heap.size, 1, none⟩ = some (.bool false) ∧ wr.cell? ⟨w.heap.size, 2, none⟩ = some (.slice none 0 0) ∧
    wr.cell? ⟨w.heap.size, 3, none⟩ = some (.int .u64 0) ∧ wr.cell? ⟨w.heap.size, 4, none⟩ = some (.string ⟨#[]⟩) ∧ wr.cell? ⟨w.heap.size, 5, none⟩ = some (.slice none 0 0) ∧
    (∀ j, wr.frozen? ⟨w.heap.size, j, none⟩ = false) ∧ w.heap.size < wr.heap.size := by
  have hz : ∀ j v, (#[Value.int .i64 0, .bool false, .slice none 0 0, .int .u64 0, .string ⟨#[]⟩, .slice none 0 0] : Array Value)[j]? = some v → wr.cell? ⟨w.heap.size, j, none⟩ = some v := by
    intro j v hv
    rw [hb.cell (p := ⟨w.heap.size, j, none⟩) (by simp)]
    unfold zeroVal
    rw [World.cell?_alloc_mark]; exact hv
  refine ⟨hz 0 _ rfl, hz 1 _ rfl, hz 2 _ rfl, hz 3 _ rfl, hz 4 _ rfl, hz 5 _ rfl, fun j => ?_, ?_⟩
  · rw [hb.frozen (p := ⟨w.heap.size, j, none⟩) (by simp)]
    unfold zeroVal
    rw [World.frozen?_alloc_mark]; simp
  · have := hb.size; simp at this; omega


abbrev boolVal (b : Bool) : Value := .agg #[.int .i64 1, .bool false, .slice none 0 0, .int .u64 (cond b 1 0), .string ⟨#[]⟩, .slice none 0 0]

set_option maxRecDepth 100000 in
theorem boolVal_any (b : Bool) (w : World) : Calls Tryz.prog 25 #[.bool b] w fun e w' => e = .returned (boolVal b) ∧ Below w.heap.size w w' := by
  cases b
  all_goals
    go_enter Tryz.func25, Tryz.ntmps25
    go_wp2
  · exact bodyPost_ret (v := boolVal false) (by simp [results, Tryz.results25, go_sem]) rfl ⟨rfl, (Below.refl _ _).alloc (Nat.le_refl _) _⟩
  · exact bodyPost_ret (v := boolVal true) (by simp [results, Tryz.results25, go_sem]) rfl ⟨rfl, (Below.refl _ _).alloc (Nat.le_refl _) _⟩

end Go.Proofs.YtaogljodhjnfiaaGreatDoor
