/- Small laws on rows of bytes in memory that a call owns. -/
import Derived.Test.YtaogljodhjnfiaaGreatDoorProg
import Derived.WalkKit
import Derived.WalkSpells
import Derived.BigQuiet
import Derived.Lib.Hide
namespace Go.Proofs.YtaogljodhjnfiaaGreatDoor
open Go.RowKit
set_option linter.unusedVariables false

/-- Block b's first cells are the bytes l, none of them frozen. -/
def BRow (w : World) (b : Nat) (l : List UInt8) : Prop :=
  (∀ j (h : j < l.length), w.cell? ⟨b, j, none⟩ = some (.int .u8 (l[j].toNat : Int))) ∧ ∀ j, j < l.length → w.frozen? ⟨b, j, none⟩ = false

theorem BRow.drew {w : World} {b : Nat} {l : List UInt8} (h : BRow w b l) : BRow w.drew b l := h

theorem lt_of_cell {w : World} {b j : Nat} {v : Value} (h : w.cell? ⟨b, j, none⟩ = some v) : b < w.heap.size := by
  rcases Nat.lt_or_ge b w.heap.size with h1 | h1
  · exact h1
  · simp [World.cell?, Array.getElem?_eq_none h1] at h

theorem BRow.below {w w' : World} {b B : Nat} {l : List UInt8} (h : BRow w b l) (hb : Below B w w') (hB : b < B) : BRow w' b l :=
  ⟨fun j hj => by rw [hb.cell (p := ⟨b, j, none⟩) hB]; exact h.1 j hj, fun j hj => by rw [hb.frozen (p := ⟨b, j, none⟩) hB]; exact h.2 j hj⟩

theorem cell_setCell_ne (w : World) (p q : Addr) (v : Value) (h : p.block ≠ q.block ∨ p.off ≠ q.off) : (w.setCell p v).cell? q = w.cell? q := by
  simp only [World.cell?, World.setCell, Array.getElem?_modify]
  by_cases hb : p.block = q.block
  · have ho : p.off ≠ q.off := by rcases h with h | h; exact absurd hb h; exact h
    rw [if_pos hb]
    cases w.heap[q.block]? with
    | none => rfl
    | some o =>
      cases o <;> simp
      split
      · rfl
      · split
        · rfl
        · rw [Array.getElem?_setIfInBounds_ne ho]
  · rw [if_neg hb]

theorem frozen_setCell (w : World) (p q : Addr) (v : Value) : (w.setCell p v).frozen? q = w.frozen? q := by
  by_cases e : p.block = q.block
  · simp only [World.frozen?, World.setCell, Array.getElem?_modify]
    rw [if_pos e]
    cases w.heap[q.block]? with
    | none => rfl
    | some o => cases o <;> simp
  · simp only [World.frozen?, World.setCell, Array.getElem?_modify]
    rw [if_neg e]

theorem cell_setCell_eq (w : World) (b j : Nat) (u v : Value) (h : w.cell? ⟨b, j, none⟩ = some u) : (w.setCell ⟨b, j, none⟩ v).cell? ⟨b, j, none⟩ = some v := by
  simp only [World.cell?, World.setCell, Array.getElem?_modify] at h ⊢
  cases hh : w.heap[b]? with
  | none => simp [hh] at h
  | some o =>
    cases o <;> simp [hh] at h ⊢
    · obtain ⟨hj, _⟩ := Array.getElem?_eq_some_iff.1 h
      rw [Array.getElem?_setIfInBounds_self_of_lt hj]

theorem BRow.set {w : World} {b : Nat} {l : List UInt8} (h : BRow w b l) (j : Nat) (hj : j < l.length) (v : UInt8) :
    BRow (w.setCell ⟨b, j, none⟩ (.int .u8 (v.toNat : Int))) b (l.set j v) := by
  refine ⟨fun i hi => ?_, fun i hi => ?_⟩
  · have hi' : i < l.length := by simpa using hi
    by_cases e : j = i
    · subst e
      rw [cell_setCell_eq w b j _ _ (h.1 j hj)]
      simp
    · rw [cell_setCell_ne w ⟨b, j, none⟩ ⟨b, i, none⟩ _ (Or.inr e), h.1 i hi']
      simp [List.getElem_set_ne e]
  · rw [frozen_setCell]
    exact h.2 i (by simpa using hi)

theorem BRow.setOther {w : World} {b : Nat} {l : List UInt8} (h : BRow w b l) (p : Addr) (v : Value) (hp : p.block ≠ b) : BRow (w.setCell p v) b l :=
  ⟨fun j hj => by rw [cell_setCell_ne w p ⟨b, j, none⟩ v (Or.inl hp)]; exact h.1 j hj, fun j hj => by rw [frozen_setCell]; exact h.2 j hj⟩

theorem BRow.alloc {w : World} {b : Nat} {l : List UInt8} (h : BRow w b l) (hb : b < w.heap.size) (o : Obj) : BRow (w.alloc o) b l :=
  h.below ((Below.refl w.heap.size w).alloc (Nat.le_refl _) o) hb

/-- Behind '[]byte(s)': the new row holds s. -/
theorem brow_made (w : World) (s : ByteArray) (c e : Nat) (m n : Nat) (hm : s.size ≤ m) : BRow (w.alloc (.cells (bytesRow s c) e (m, n))) w.heap.size s.data.toList := by
  refine ⟨fun j hj => ?_, fun j hj => ?_⟩
  · rw [World.cell?_alloc_mark, bytesRow_at s c j (by simpa using hj)]
    simp
  · have : j < s.size := hj
    rw [World.frozen?_alloc_mark]
    simp; omega

theorem bytesRow_size (s : ByteArray) (c : Nat) : s.size ≤ (bytesRow s c).size := by
  unfold bytesRow; simp

/-- A store into an owned row of bytes, and what it leaves. -/
theorem brow_step {W wr : World} {B b : Nat} {l l' : List UInt8} {k : Nat} {v : UInt8} (hr : BRow wr b l) (hk : k < l.length) (hb : Below B W wr) (hB : B ≤ b) (hl : l.set k v = l') :
    wr.cell? ⟨b, k, none⟩ = some (.int .u8 (l[k].toNat : Int)) ∧ wr.frozen? ⟨b, k, none⟩ = false ∧
    BRow (wr.setCell ⟨b, k, none⟩ (.int .u8 (v.toNat : Int))) b l' ∧ Below B W (wr.setCell ⟨b, k, none⟩ (.int .u8 (v.toNat : Int))) :=
  ⟨hr.1 k hk, hr.2 k hk, by rw [← hl]; exact hr.set k hk v, hb.setCell hB _⟩

theorem bcell {W w1 : World} (hb : Below W.heap.size W w1) : (∀ b o, b < W.heap.size → w1.cell? ⟨b, o, none⟩ = W.cell? ⟨b, o, none⟩) ∧ (∀ b o, b < W.heap.size → w1.frozen? ⟨b, o, none⟩ = W.frozen? ⟨b, o, none⟩) :=
  ⟨fun b o h => hb.cell (p := ⟨b, o, none⟩) h, fun b o h => hb.frozen (p := ⟨b, o, none⟩) h⟩

theorem add_off (b j : Nat) : (⟨b, 0, none⟩ : Addr).add j = ⟨b, j, none⟩ := by
  unfold Addr.add; split <;> simp_all

end Go.Proofs.YtaogljodhjnfiaaGreatDoor
