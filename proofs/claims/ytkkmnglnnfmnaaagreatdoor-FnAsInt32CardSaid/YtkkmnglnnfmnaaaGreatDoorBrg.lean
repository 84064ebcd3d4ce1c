/- A bridge between the printed words on rows of integers and mine; eight bytes as a word; the length of a word in bits. -/
import Derived.Test.YtkkmnglnnfmnaaaGreatDoorPFnAsInt32x1
import Derived.Test.YtkkmnglnnfmnaaaGreatDoorIBase
import Derived.Test.YtkkmnglnnfmnaaaGreatDoorNum
namespace Go.Proofs.YtkkmnglnnfmnaaaGreatDoor
open Go.RowKit Go.Proofs.YtkkmnglnnfmnaaaGreatDoorW.PrintWords Go.Proofs.YtkkmnglnnfmnaaaGreatDoorW.PrintLast Go.Proofs.YtkkmnglnnfmnaaaGreatDoorW.PrintMore Go.Proofs.YtkkmnglnnfmnaaaGreatDoor.PFnAsInt32
set_option linter.unusedVariables false

theorem c_mk {k : IntKind} {w : World} {b o : Nat} {l : List Int} (h1 : l.length ≤ 9223372036854775807) (h : ∀ j (h : j < l.length), w.cell? ⟨b, o + j, none⟩ = some (.int k l[j])) :
    Kd.C (Kd.int k) w (some ⟨b, o, none⟩) l.length l := by
  refine ⟨rfl, h1, fun _ => ⟨_, rfl, fun j p hp => ⟨[.int k p], rfl, rfl, fun i u hu => ?_⟩⟩⟩
  obtain ⟨hj, rfl⟩ := List.getElem?_eq_some_iff.1 hp
  have hi : i = 0 := by
    rcases i with _ | i
    · rfl
    · simp at hu
  subst hi
  have hu' : Value.int k l[j] = u := by simpa using hu
  rw [← hu', ← h j hj]
  congr 1
  show Addr.add _ (j * 1 + 0) = _
  unfold Addr.add
  split
  · simp_all
  · simp
theorem c_nil {k : IntKind} {w : World} : Kd.C (Kd.int k) w none 0 [] := ⟨rfl, by omega, fun h => absurd h (by omega)⟩
theorem c_get {k : IntKind} {w : World} {A : Option Addr} {l : List Int} (h : Kd.C (Kd.int k) w A l.length l) (hne : l ≠ []) :
    ∃ b o, A = some ⟨b, o, none⟩ ∧ ∀ j (h : j < l.length), w.cell? ⟨b, o + j, none⟩ = some (.int k l[j]) := by
  have hpos : 0 < l.length := List.length_pos_iff.2 hne
  obtain ⟨ad, rfl, hc⟩ := h.2.2 hpos
  have cell : ∀ j (h : j < l.length), w.cell? (ad.add j) = some (.int k l[j]) := by
    intro j hj
    obtain ⟨c, h1, h2, h3⟩ := hc j _ (List.getElem?_eq_getElem hj)
    have h2' : c = [.int k l[j]] := h2
    have := h3 0 (.int k l[j]) (by rw [h2']; rfl)
    rw [show j * (Kd.int k).sz + 0 = j from by show j * 1 + 0 = j; omega] at this
    exact this
  obtain ⟨b, o, sp⟩ := ad
  have h0 := cell 0 hpos
  have hs : sp = none := by
    have e : (⟨b, o, sp⟩ : Addr).add 0 = ⟨b, o, sp⟩ := by unfold Addr.add; simp
    rw [e] at h0
    unfold World.cell? at h0
    split at h0
    · split at h0
      · cases h0
      · rename_i hn; cases sp with
        | none => rfl
        | some x => exact absurd rfl hn
    · cases h0
  subst hs
  refine ⟨b, o, rfl, fun j hj => ?_⟩
  have := cell j hj
  rw [← this]
  congr 1
  unfold Addr.add
  split
  · simp_all
  · rfl
theorem isl_c {k : IntKind} {w : World} {v : Value} {l : List Int} (h : ISl k w v l) : ∃ A c, v = .slice A l.length c ∧ l.length ≤ c ∧ c ≤ 9223372036854775807 ∧ Kd.C (Kd.int k) w A l.length l := by
  obtain ⟨A, c, rfl, h1, h2, h3⟩ := h
  refine ⟨A, c, rfl, h1, h2, ?_⟩
  by_cases hne : l = []
  · subst hne
    exact ⟨rfl, by simp, fun h => absurd h (by simp)⟩
  · obtain ⟨b, o, rfl, _, hc⟩ := h3 hne
    exact c_mk (by omega) hc

/-- A slice of integers in blocks from B on. -/
def Sl (k : IntKind) (B : Nat) (w : World) (v : Value) (l : List Int) : Prop :=
  ∃ A c, v = .slice A l.length c ∧ l.length ≤ c ∧ l.length ≤ 9223372036854775807 ∧ (l ≠ [] → ∃ b o, A = some ⟨b, o, none⟩ ∧ B ≤ b ∧ b < w.heap.size ∧ ∀ j (h : j < l.length), w.cell? ⟨b, o + j, none⟩ = some (.int k l[j]))
section
variable {k : IntKind} {B B' : Nat} {w w' : World} {v : Value} {l : List Int}
theorem Sl.mono (h : Sl k B w v l) (hB : B' ≤ B) : Sl k B' w v l := by
  obtain ⟨A, c, rfl, h1, h2, h3⟩ := h
  exact ⟨A, c, rfl, h1, h2, fun hne => by obtain ⟨b, o, rfl, hb, hlt, hc⟩ := h3 hne; exact ⟨b, o, rfl, Nat.le_trans hB hb, hlt, hc⟩⟩
theorem Sl.below (h : Sl k B w v l) (hb : Below w.heap.size w w') : Sl k B w' v l := by
  obtain ⟨A, c, rfl, h1, h2, h3⟩ := h
  exact ⟨A, c, rfl, h1, h2, fun hne => by obtain ⟨b, o, rfl, hB, hlt, hc⟩ := h3 hne; exact ⟨b, o, rfl, hB, Nat.lt_of_lt_of_le hlt hb.size, fun j hj => by rw [hb.cell (p := ⟨b, o + j, none⟩) hlt]; exact hc j hj⟩⟩
theorem Sl.setCell (h : Sl k B w v l) {p : Addr} (u : Value) (hp : p.block < B) : Sl k B (w.setCell p u) v l := by
  obtain ⟨A, c, rfl, h1, h2, h3⟩ := h
  exact ⟨A, c, rfl, h1, h2, fun hne => by obtain ⟨b, o, rfl, hB, hlt, hc⟩ := h3 hne; exact ⟨b, o, rfl, hB, by simpa [World.setCell] using hlt, fun j hj => by rw [cell_setCell_ne w p ⟨b, o + j, none⟩ u (Or.inl (by show p.block ≠ b; omega))]; exact hc j hj⟩⟩
theorem Sl.alloc (h : Sl k B w v l) (o : Obj) : Sl k B (w.alloc o) v l := h.below ((Below.refl w.heap.size w).alloc (Nat.le_refl _) o)
theorem Sl.drew (h : Sl k B w v l) : Sl k B w.drew v l := h
theorem Sl.c (h : Sl k B w v l) : ∃ A c, v = .slice A l.length c ∧ l.length ≤ c ∧ Kd.C (Kd.int k) w A l.length l := by
  obtain ⟨A, c, rfl, h1, h2, h3⟩ := h
  refine ⟨A, c, rfl, h1, ?_⟩
  by_cases hne : l = []
  · subst hne
    exact ⟨rfl, by simp, fun h => absurd h (by simp)⟩
  · obtain ⟨b, o, rfl, _, _, hc⟩ := h3 hne
    exact c_mk h2 hc
theorem Sl.nil : Sl k B w (.slice none 0 0) [] := ⟨none, 0, rfl, Nat.le_refl _, by simp, fun h => absurd rfl h⟩
theorem r_sl {e base : Nat} {ok : Nat → Prop} (h : Kd.R (Kd.int k) e w base ok v l) : Sl k base w v l := by
  obtain ⟨A, c, rfl, h1, hC⟩ := Kd.R_reads h
  refine ⟨A, c, rfl, h1, hC.2.1, fun hne => ?_⟩
  obtain ⟨b, o, rfl, hc⟩ := c_get hC hne
  obtain ⟨_, inner, ho, _⟩ := h
  exact ⟨b, o, rfl, own_base ho b rfl, own_lt ho b rfl, hc⟩
theorem IRow.sl' (h : IRow k w B l) (hb : B < w.heap.size) {c : Nat} (h1 : l.length ≤ c) (h2 : l.length ≤ 9223372036854775807) : Sl k B w (.slice (some ⟨B, 0, none⟩) l.length c) l :=
  ⟨_, _, rfl, h1, h2, fun _ => ⟨B, 0, rfl, Nat.le_refl _, hb, fun j hj => by rw [Nat.zero_add]; exact h.1 j hj⟩⟩
end
end Go.Proofs.YtkkmnglnnfmnaaaGreatDoor
