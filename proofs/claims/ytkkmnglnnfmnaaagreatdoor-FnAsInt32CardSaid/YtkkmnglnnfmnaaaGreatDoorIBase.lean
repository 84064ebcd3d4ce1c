/- Small laws on rows of integers in memory that a call owns. -/
import Derived.Test.YtkkmnglnnfmnaaaGreatDoorProg
import Derived.WalkKit
import Derived.WalkSpells
import Derived.BigQuiet
import Derived.Lib.Hide
namespace Go.Proofs.YtkkmnglnnfmnaaaGreatDoor
open Go.RowKit
set_option linter.unusedVariables false

/-- Block b's first cells are the integers l of a kind, none of them frozen. -/
def IRow (k : IntKind) (w : World) (b : Nat) (l : List Int) : Prop :=
  (∀ j (h : j < l.length), w.cell? ⟨b, j, none⟩ = some (.int k l[j])) ∧ ∀ j, j < l.length → w.frozen? ⟨b, j, none⟩ = false

theorem IRow.drew {k : IntKind} {w : World} {b : Nat} {l : List Int} (h : IRow k w b l) : IRow k w.drew b l := h

theorem lt_of_cell {w : World} {b j : Nat} {v : Value} (h : w.cell? ⟨b, j, none⟩ = some v) : b < w.heap.size := by
  rcases Nat.lt_or_ge b w.heap.size with h1 | h1
  · exact h1
  · simp [World.cell?, Array.getElem?_eq_none h1] at h

theorem IRow.below {k : IntKind} {w w' : World} {b B : Nat} {l : List Int} (h : IRow k w b l) (hb : Below B w w') (hB : b < B) : IRow k w' b l :=
  ⟨fun j hj => by rw [hb.cell (p := ⟨b, j, none⟩) hB]; exact h.1 j hj, fun j hj => by rw [hb.frozen (p := ⟨b, j, none⟩) hB]; exact h.2 j hj⟩

theorem cell_setCell_ne (w : World) (p q : Addr) (v : Value) (h : p.block ≠ q.block ∨ p.off ≠ q.off) : (w.setCell p v).cell? q = w.cell? q := by
  simp only [World.cell?, World.setCell, Array.getElem?_modify]
  by_cases hb : p.block = q.block
  · have ho : p.off ≠ q.off := by rcases h with h | h; exact absurd hb h; exact h
    rw [if_pos hb]
    cases w.heap[q.block]? with
    | none => rfl
    | some o =>
      cases o <;> simp
      split
      · rfl
      · split
        · rfl
        · rw [Array.getElem?_setIfInBounds_ne ho]
  · rw [if_neg hb]

theorem frozen_setCell (w : World) (p q : Addr) (v : Value) : (w.setCell p v).frozen? q = w.frozen? q := by
  by_cases e : p.block = q.block
  · simp only [World.frozen?, World.setCell, Array.getElem?_modify]
    rw [if_pos e]
    cases w.heap[q.block]? with
    | none => rfl
    | some o => cases o <;> simp
  · simp only [World.frozen?, World.setCell, Array.getElem?_modify]
    rw [if_neg e]

theorem cell_setCell_eq (w : World) (b j : Nat) (u v : Value) (h : w.cell? ⟨b, j, none⟩ = some u) : (w.setCell ⟨b, j, none⟩ v).cell? ⟨b, j, none⟩ = some v := by
  simp only [World.cell?, World.setCell, Array.getElem?_modify] at h ⊢
  cases hh : w.heap[b]? with
  | none => simp [hh] at h
  | some o =>
    cases o <;> simp [hh] at h ⊢
    · obtain ⟨hj, _⟩ := Array.getElem?_eq_some_iff.1 h
      rw [Array.getElem?_setIfInBounds_self_of_lt hj]

theorem IRow.set {k : IntKind} {w : World} {b : Nat} {l : List Int} (h : IRow k w b l) (j : Nat) (hj : j < l.length) (v : Int) :
    IRow k (w.setCell ⟨b, j, none⟩ (.int k v)) b (l.set j v) := by
  refine ⟨fun i hi => ?_, fun i hi => ?_⟩
  · have hi' : i < l.length := by simpa using hi
    by_cases e : j = i
    · subst e
      rw [cell_setCell_eq w b j _ _ (h.1 j hj)]
      simp
    · rw [cell_setCell_ne w ⟨b, j, none⟩ ⟨b, i, none⟩ _ (Or.inr e), h.1 i hi']
      simp [List.getElem_set_ne e]
  · rw [frozen_setCell]
    exact h.2 i (by simpa using hi)

theorem IRow.setOther {k : IntKind} {w : World} {b : Nat} {l : List Int} (h : IRow k w b l) (p : Addr) (v : Value) (hp : p.block ≠ b) : IRow k (w.setCell p v) b l :=
  ⟨fun j hj => by rw [cell_setCell_ne w p ⟨b, j, none⟩ v (Or.inl hp)]; exact h.1 j hj, fun j hj => by rw [frozen_setCell]; exact h.2 j hj⟩

theorem IRow.alloc {k : IntKind} {w : World} {b : Nat} {l : List Int} (h : IRow k w b l) (hb : b < w.heap.size) (o : Obj) : IRow k (w.alloc o) b l :=
  h.below ((Below.refl w.heap.size w).alloc (Nat.le_refl _) o) hb

/-- A store into an owned row, and what it leaves. -/
theorem irow_step {k : IntKind} {W wr : World} {B b : Nat} {l : List Int} {j : Nat} {v : Int} (hr : IRow k wr b l) (hj : j < l.length) (hb : Below B W wr) (hB : B ≤ b) :
    wr.cell? ⟨b, j, none⟩ = some (.int k l[j]) ∧ wr.frozen? ⟨b, j, none⟩ = false ∧
    IRow k (wr.setCell ⟨b, j, none⟩ (.int k v)) b (l.set j v) ∧ Below B W (wr.setCell ⟨b, j, none⟩ (.int k v)) :=
  ⟨hr.1 j hj, hr.2 j hj, hr.set j hj v, hb.setCell hB _⟩

theorem bcell {W w1 : World} (hb : Below W.heap.size W w1) : (∀ b o, b < W.heap.size → w1.cell? ⟨b, o, none⟩ = W.cell? ⟨b, o, none⟩) ∧ (∀ b o, b < W.heap.size → w1.frozen? ⟨b, o, none⟩ = W.frozen? ⟨b, o, none⟩) :=
  ⟨fun b o h => hb.cell (p := ⟨b, o, none⟩) h, fun b o h => hb.frozen (p := ⟨b, o, none⟩) h⟩

theorem add_off (b j : Nat) : (⟨b, 0, none⟩ : Addr).add j = ⟨b, j, none⟩ := by
  unfold Addr.add; split <;> simp_all

/-- A slice value that holds integers of a kind. -/
def ISl (k : IntKind) (w : World) (v : Value) (l : List Int) : Prop :=
  ∃ A c, v = .slice A l.length c ∧ l.length ≤ c ∧ c ≤ 9223372036854775807 ∧ (l ≠ [] → ∃ b o, A = some ⟨b, o, none⟩ ∧ b < w.heap.size ∧ ∀ j (h : j < l.length), w.cell? ⟨b, o + j, none⟩ = some (.int k l[j]))
theorem ISl.below {k : IntKind} {w w' : World} {v : Value} {l : List Int} (h : ISl k w v l) (hb : Below w.heap.size w w') : ISl k w' v l := by
  obtain ⟨A, c, rfl, h1, h2, h3⟩ := h
  refine ⟨A, c, rfl, h1, h2, fun hne => ?_⟩
  obtain ⟨b, o, rfl, hlt, hc⟩ := h3 hne
  exact ⟨b, o, rfl, Nat.lt_of_lt_of_le hlt hb.size, fun j hj => by rw [hb.cell (p := ⟨b, o + j, none⟩) hlt]; exact hc j hj⟩
theorem ISl.nil (k : IntKind) (w : World) : ISl k w (.slice none 0 0) [] := ⟨none, 0, rfl, Nat.le_refl _, by omega, fun h => absurd rfl h⟩
theorem IRow.sl {k : IntKind} {w : World} {b c : Nat} {l : List Int} (h : IRow k w b l) (hb : b < w.heap.size) (h1 : l.length ≤ c) (h2 : c ≤ 9223372036854775807) : ISl k w (.slice (some ⟨b, 0, none⟩) l.length c) l :=
  ⟨_, _, rfl, h1, h2, fun _ => ⟨b, 0, rfl, hb, fun j hj => by rw [Nat.zero_add]; exact h.1 j hj⟩⟩

end Go.Proofs.YtkkmnglnnfmnaaaGreatDoor
