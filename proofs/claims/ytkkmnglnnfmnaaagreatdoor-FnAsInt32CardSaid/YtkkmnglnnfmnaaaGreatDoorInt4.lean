/- starlark's MakeBigInt; impl.whole. -/
import Derived.Test.YtkkmnglnnfmnaaaGreatDoorInt3
import Derived.Test.YtkkmnglnnfmnaaaGreatDoorSpecNum
namespace Go.Proofs.YtkkmnglnnfmnaaaGreatDoor
open Go.RowKit Go.Proofs.YtkkmnglnnfmnaaaGreatDoorW.PrintWords Go.Proofs.YtkkmnglnnfmnaaaGreatDoorW.PrintLast Go.Proofs.YtkkmnglnnfmnaaaGreatDoorW.PrintMore
set_option linter.unusedVariables false
set_option linter.unusedSimpArgs false

/-- A starlark.Int of the number x; what it points to lies from block B on. -/
def SIv (B : Nat) (w : World) (v : Value) (x : Int) : Prop :=
  (sml x = true ∧ v = .agg #[.int .i64 x, .pointer none]) ∨
  (sml x = false ∧ ∃ g neg u zs, v = .agg #[.int .i64 0, .pointer (some ⟨g, 0, none⟩)] ∧ B ≤ g ∧ BI w g neg u zs ∧ bval neg zs = x ∧ zs.length ≤ 4398046511104)
section
variable {B B' : Nat} {w w' : World} {v : Value} {x : Int}
theorem SIv.mono (h : SIv B w v x) (hB : B' ≤ B) : SIv B' w v x := by
  rcases h with h | ⟨h, g, neg, u, zs, e, hg, hb, r⟩
  · exact Or.inl h
  · exact Or.inr ⟨h, g, neg, u, zs, e, Nat.le_trans hB hg, hb, r⟩
theorem SIv.below (h : SIv B w v x) (hb : Below w.heap.size w w') : SIv B w' v x := by
  rcases h with h | ⟨h, g, neg, u, zs, e, hg, hi, r⟩
  · exact Or.inl h
  · exact Or.inr ⟨h, g, neg, u, zs, e, hg, hi.below hb, r⟩
theorem BI.setOther {g : Nat} {neg : Bool} {u : Value} {zs : List Int} (h : BI w g neg u zs) {p : Addr} (y : Value) (hp : p.block < g) : BI (w.setCell p y) g neg u zs :=
  ⟨blk_far h.blk (by omega) y, h.sl.setCell y (by omega), h.words, h.top⟩
theorem SIv.setCell (h : SIv B w v x) {p : Addr} (y : Value) (hp : p.block < B) : SIv B (w.setCell p y) v x := by
  rcases h with h | ⟨h, g, neg, u, zs, e, hg, hi, r⟩
  · exact Or.inl h
  · exact Or.inr ⟨h, g, neg, u, zs, e, hg, hi.setOther y (by omega), r⟩
theorem SIv.drew (h : SIv B w v x) : SIv B w.drew v x := by
  rcases h with h | ⟨h, g, neg, u, zs, e, hg, hi, r⟩
  · exact Or.inl h
  · exact Or.inr ⟨h, g, neg, u, zs, e, hg, hi.drew, r⟩
theorem SIv.shape (h : SIv B w v x) : ∃ y p, v = .agg #[.int .i64 y, .pointer p] := by
  rcases h with ⟨_, rfl⟩ | ⟨_, g, neg, u, zs, rfl, _⟩ <;> exact ⟨_, _, rfl⟩
end
theorem sml_low (neg : Bool) (zs : List Int) (hw : Words zs) (h : sml (bval neg zs) = true) : leN zs < 4294967296 := by
  have h0 := (leN_bd zs hw).1
  unfold sml bval at h
  cases neg <;> simp at h <;> omega

set_option maxRecDepth 100000 in
theorem makeBigInt_c (g : Nat) (neg : Bool) (v : Value) (zs : List Int) (w : World) (h : BI w g neg v zs) (hlen : zs.length ≤ 4398046511104) :
    Calls Tryz.prog 32 #[.pointer (some ⟨g, 0, none⟩)] w fun e w' => ∃ u, e = .returned u ∧ SIv w.heap.size w' u (bval neg zs) ∧ Below w.heap.size w w' := by
  have H := Lib.hid h
  have hlt := h.lt
  have HS := Lib.hid (fun w' (hb : Below w.heap.size w w') => isSmall_c g neg v zs w' (h.below hb) hlen)
  obtain ⟨x, hx⟩ : ∃ x, bval neg zs = x := ⟨_, rfl⟩
  have HX := Lib.hid hx
  rw [hx] at HS ⊢
  cases hs : sml x
  · have HQ := Lib.hid hs
    rw [hs] at HS
    clear hx hs h
    have HSet := Lib.hid (fun w' v0 (hb : Below w.heap.size w w') g2 (h2 : g2 ≠ g) hk => intSet_c g g2 neg v0 v zs w' (H.out.below hb) h2 hlen hk)
    have hne : w.heap.size + 1 ≠ g := by omega
    go_enter Tryz.func32, Tryz.ntmps32
    go_wp2_with (first | (go_at_call 37; refine (HS.out _ ((Below.refl _ _).alloc (Nat.le_refl _) _)).mono ?_; rintro e w1 ⟨rfl, rfl⟩) | (go_at_call 36; refine (HSet.out _ false (((Below.refl _ _).alloc (Nat.le_refl _) _).alloc (by simp) _) _ hne (by simpa using blk_new (w.alloc _) _)).mono ?_; rintro e w1 ⟨rfl, ⟨u1, hi1⟩, hb1⟩; have HI := Lib.hid hi1; have HB := Lib.hid hb1; have q0 := (HB.out.cell (p := ⟨w.heap.size, 0, none⟩) (by simp)).trans (show World.cell? _ _ = some (.int .i64 0) from by go_simp); have q1 := (HB.out.cell (p := ⟨w.heap.size, 1, none⟩) (by simp)).trans (show World.cell? _ _ = some (.pointer none) from by go_simp); have f0 := (HB.out.frozen (p := ⟨w.heap.size, 0, none⟩) (by simp)).trans (show World.frozen? _ _ = false from by go_simp); have f1 := (HB.out.frozen (p := ⟨w.heap.size, 1, none⟩) (by simp)).trans (show World.frozen? _ _ = false from by go_simp); clear hi1 hb1) | (go_at_call 40; refine (makeBig_c _ _).mono ?_; rintro e w2 ⟨rfl, hb2⟩; have HB2 := Lib.hid hb2; have hlt2 := HI.out.lt; have q0' := (HB2.out.cell (p := ⟨w.heap.size, 0, none⟩) (by show w.heap.size < _; omega)).trans q0; have q1' := (HB2.out.cell (p := ⟨w.heap.size, 1, none⟩) (by show w.heap.size < _; omega)).trans q1; have f0' := (HB2.out.frozen (p := ⟨w.heap.size, 0, none⟩) (by show w.heap.size < _; omega)).trans f0; have f1' := (HB2.out.frozen (p := ⟨w.heap.size, 1, none⟩) (by show w.heap.size < _; omega)).trans f1; clear hb2))
    refine bodyPost_ret (v := .agg #[.int .i64 0, .pointer (some ⟨w.heap.size + 1, 0, none⟩)]) (by simp [results, Tryz.results32, go_sem, q0', q1']) rfl ⟨_, rfl, Or.inr ⟨HQ.out, w.heap.size + 1, neg, u1, zs, rfl, by omega, ((HI.out.below HB2.out).setOther _ (by simp)).setOther _ (by simp), HX.out, hlen⟩, ?_⟩
    have hsz := HB.out.size
    have hsz2 := HB2.out.size
    simp at hsz
    exact (((((Below.refl _ _).alloc (Nat.le_refl _) _).alloc (by simp) _).trans (HB.out.mono (by simp))).trans (HB2.out.mono (by omega))).setCell (Nat.le_refl _) _ |>.setCell (Nat.le_refl _) _
  · have HQ := Lib.hid hs
    rw [hs] at HS
    have HV := Lib.hid (i64Of_bval neg zs h.words h.top (sml_low neg zs h.words (by rw [hx]; exact hs)))
    clear hx hs h
    have H64 := Lib.hid (fun w' (hb : Below w.heap.size w w') => intInt64_c g neg v zs w' (H.out.below hb))
    rw [HV.out, HX.out] at H64
    go_enter Tryz.func32, Tryz.ntmps32
    go_wp2_with (first | (go_at_call 37; refine (HS.out _ ((Below.refl _ _).alloc (Nat.le_refl _) _)).mono ?_; rintro e w1 ⟨rfl, rfl⟩) | (go_at_call 39; refine (H64.out _ ((Below.refl _ _).alloc (Nat.le_refl _) _)).mono ?_; rintro e w1 ⟨rfl, rfl⟩) | (go_at_call 38; refine (makeSmall_c _ _).mono ?_; rintro e w2 ⟨rfl, hb2⟩; have HB2 := Lib.hid hb2; obtain ⟨hc2, hf2⟩ := bcell hb2; clear hb2))
    refine bodyPost_ret (v := .agg #[.int .i64 x, .pointer none]) (by simp [results, Tryz.results32, go_sem, hc2]) rfl ⟨_, rfl, Or.inl ⟨HQ.out, rfl⟩, ?_⟩
    have hsz := HB2.out.size
    simp at hsz
    exact ((((Below.refl _ _).alloc (Nat.le_refl _) _).trans (HB2.out.mono (by simp))).setCell (Nat.le_refl _) _).setCell (Nat.le_refl _) _
#print axioms makeBigInt_c
end Go.Proofs.YtkkmnglnnfmnaaaGreatDoor
