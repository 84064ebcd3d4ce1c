/- The walks of laws.told, laws.whole. -/
import Derived.Test.YtkkmnglnnfmnaaaGreatDoorSpecW
import Derived.Deep.RegionWith
namespace Go.Proofs.YtkkmnglnnfmnaaaGreatDoor
open Go.RowKit Go.Proofs.YtkkmnglnnfmnaaaGreatDoorW.PrintWords Go.Proofs.YtkkmnglnnfmnaaaGreatDoorW.PrintLast Go.Proofs.YtkkmnglnnfmnaaaGreatDoorW.PrintMore Go.Proofs.YtkkmnglnnfmnaaaGreatDoor.PFnAsInt32
set_option linter.unusedVariables false
set_option linter.unusedSimpArgs false

/-- The cells of a Val that holds an integer. -/
def vint (n : Bool) (v2 v5 : Value) : Value := .agg #[.int .i64 2, .bool n, v2, .int .u64 0, .string ⟨#[]⟩, v5]

theorem told_c (B : Nat) (v : Value) (n : Bool) (l : List Int) (w : World) (h : SInt B w v n l) (hn : l.length < 140737488355328) :
    Calls Tryz.prog 8 #[v] w fun e w' => ∃ A2 c2 A5 c5, e = .returned (vint n (.slice A2 l.length c2) (.slice A5 0 c5)) ∧ Sl .u8 w.heap.size w' (.slice A2 l.length c2) l ∧ Below w.heap.size w w' := by
  obtain ⟨s, rfl, hs⟩ := h
  obtain ⟨A, c, rfl, h1, hC⟩ := hs.c
  refine (laws_told.calls n A c l 2 n l 0 ⟨#[]⟩ [] w hC h1 ?_).mono ?_
  · unfold laws_told.f
    simp [hn]
  · rintro e w' ⟨v2, v5, rfl, hr, hr5, hb⟩
    obtain ⟨A5, c5, rfl⟩ := Kd.R_slice hr5
    obtain ⟨A2, c2, rfl⟩ := Kd.R_slice hr
    exact ⟨A2, c2, A5, c5, rfl, r_sl hr, hb⟩

theorem sl_take {k : IntKind} {B : Nat} {w : World} {A : Option Addr} {c : Nat} {l : List Int} (h : Sl k B w (.slice A l.length c) l) (m : Nat) : Sl k B w (.slice A (l.take m).length c) (l.take m) := by
  obtain ⟨A', c', e, h1, h2, h3⟩ := h
  simp only [Value.slice.injEq] at e
  obtain ⟨rfl, _, rfl⟩ := e
  have hl : (l.take m).length ≤ l.length := by rw [List.length_take]; omega
  refine ⟨A, c, rfl, by omega, by omega, fun hne => ?_⟩
  have hne2 : l ≠ [] := by rintro rfl; simp at hne
  obtain ⟨b, o, rfl, hB, hlt, hc⟩ := h3 hne2
  refine ⟨b, o, rfl, hB, hlt, fun j hj => ?_⟩
  rw [List.getElem_take]
  exact hc j (by omega)

theorem lt_blk {w : World} {g : Nat} {o : Obj} (h : w.heap[g]? = some o) : g < w.heap.size := by
  rcases Nat.lt_or_ge g w.heap.size with h1 | h1
  · exact h1
  · rw [Array.getElem?_eq_none h1] at h; cases h
theorem blk_keep {w w' : World} {B g : Nat} {o : Obj} (h : w.heap[g]? = some o) (hb : Below B w w') (hg : g < B) : w'.heap[g]? = some o := (hb.block g hg).trans h

/-- Three boxes: the two results', and one that holds a spec.Int; while the rest grows. -/
structure WX (w0 : World) (n : Bool) (s : Value) (l : List Int) (g : Nat) (w : World) : Prop where
  r1 : w.heap[w0.heap.size]? = some (.cells #[.bool false, .slice none 0 0] 24 (0, 0))
  r2 : w.heap[w0.heap.size + 1]? = some (.cells #[.int .i64 0, .bool false, .slice none 0 0, .int .u64 0, .string ⟨#[]⟩, .slice none 0 0] 28 (0, 0))
  box : w.heap[g]? = some (.cells #[.bool n, s] 24 (0, 0))
  far : w0.heap.size + 1 < g
  low : Below w0.heap.size w0 w
  sl : Sl .u8 (w0.heap.size + 2) w s l
theorem WX.below {w0 w w' : World} {n : Bool} {s : Value} {l : List Int} {g : Nat} (h : WX w0 n s l g w) (hb : Below w.heap.size w w') : WX w0 n s l g w' :=
  ⟨blk_below h.r1 hb, blk_below h.r2 hb, blk_below h.box hb, h.far, h.low.trans (hb.mono h.low.size), h.sl.below hb⟩
theorem WX.drew {w0 w : World} {n : Bool} {s : Value} {l : List Int} {g : Nat} (h : WX w0 n s l g w) : WX w0 n s l g w.drew :=
  ⟨h.r1, h.r2, h.box, h.far, h.low.drew, h.sl⟩
theorem WX.cells {w0 w : World} {n : Bool} {s : Value} {l : List Int} {g : Nat} (h : WX w0 n s l g w) :
    w.cell? ⟨g, 0, none⟩ = some (.bool n) ∧ w.cell? ⟨g, 1, none⟩ = some s :=
  ⟨(blk_cell h.box 0).trans rfl, (blk_cell h.box 1).trans rfl⟩
theorem WX.outs {w0 w : World} {n : Bool} {s : Value} {l : List Int} {g : Nat} (h : WX w0 n s l g w) :
    (w.cell? ⟨w0.heap.size, 0, none⟩ = some (.bool false) ∧ w.cell? ⟨w0.heap.size, 1, none⟩ = some (.slice none 0 0)) ∧
    (w.cell? ⟨w0.heap.size + 1, 0, none⟩ = some (.int .i64 0) ∧ w.cell? ⟨w0.heap.size + 1, 1, none⟩ = some (.bool false) ∧ w.cell? ⟨w0.heap.size + 1, 2, none⟩ = some (.slice none 0 0) ∧ w.cell? ⟨w0.heap.size + 1, 3, none⟩ = some (.int .u64 0) ∧ w.cell? ⟨w0.heap.size + 1, 4, none⟩ = some (.string ⟨#[]⟩) ∧ w.cell? ⟨w0.heap.size + 1, 5, none⟩ = some (.slice none 0 0)) ∧
    (∀ o, w.frozen? ⟨w0.heap.size, o, none⟩ = false) ∧ ∀ o, w.frozen? ⟨w0.heap.size + 1, o, none⟩ = false :=
  ⟨⟨(blk_cell h.r1 0).trans rfl, (blk_cell h.r1 1).trans rfl⟩, ⟨(blk_cell h.r2 0).trans rfl, (blk_cell h.r2 1).trans rfl, (blk_cell h.r2 2).trans rfl, (blk_cell h.r2 3).trans rfl, (blk_cell h.r2 4).trans rfl, (blk_cell h.r2 5).trans rfl⟩, blk_frozen h.r1, blk_frozen h.r2⟩

theorem WX.done {w0 w : World} {n : Bool} {s : Value} {l : List Int} {g : Nat} (h : WX w0 n s l g w) {v2 : Value} {l2 : List Int} (h2 : Sl .u8 (w0.heap.size + 2) w v2 l2) (a b c d e f i j : Value) :
    Sl .u8 w0.heap.size ((((((((w.setCell ⟨w0.heap.size, 0, none⟩ a).setCell ⟨w0.heap.size, 1, none⟩ b).setCell ⟨w0.heap.size + 1, 0, none⟩ c).setCell ⟨w0.heap.size + 1, 1, none⟩ d).setCell ⟨w0.heap.size + 1, 2, none⟩ e).setCell ⟨w0.heap.size + 1, 3, none⟩ f).setCell ⟨w0.heap.size + 1, 4, none⟩ i).setCell ⟨w0.heap.size + 1, 5, none⟩ j) s l ∧
    Sl .u8 w0.heap.size ((((((((w.setCell ⟨w0.heap.size, 0, none⟩ a).setCell ⟨w0.heap.size, 1, none⟩ b).setCell ⟨w0.heap.size + 1, 0, none⟩ c).setCell ⟨w0.heap.size + 1, 1, none⟩ d).setCell ⟨w0.heap.size + 1, 2, none⟩ e).setCell ⟨w0.heap.size + 1, 3, none⟩ f).setCell ⟨w0.heap.size + 1, 4, none⟩ i).setCell ⟨w0.heap.size + 1, 5, none⟩ j) v2 l2 ∧
    Below w0.heap.size w0 ((((((((w.setCell ⟨w0.heap.size, 0, none⟩ a).setCell ⟨w0.heap.size, 1, none⟩ b).setCell ⟨w0.heap.size + 1, 0, none⟩ c).setCell ⟨w0.heap.size + 1, 1, none⟩ d).setCell ⟨w0.heap.size + 1, 2, none⟩ e).setCell ⟨w0.heap.size + 1, 3, none⟩ f).setCell ⟨w0.heap.size + 1, 4, none⟩ i).setCell ⟨w0.heap.size + 1, 5, none⟩ j) := by
  have k0 : ∀ o : Nat, (⟨w0.heap.size, o, none⟩ : Addr).block < w0.heap.size + 2 := fun o => by show w0.heap.size < _; omega
  have k1 : ∀ o : Nat, (⟨w0.heap.size + 1, o, none⟩ : Addr).block < w0.heap.size + 2 := fun o => by show w0.heap.size + 1 < _; omega
  have m0 : ∀ o : Nat, w0.heap.size ≤ (⟨w0.heap.size, o, none⟩ : Addr).block := fun o => Nat.le_refl _
  have m1 : ∀ o : Nat, w0.heap.size ≤ (⟨w0.heap.size + 1, o, none⟩ : Addr).block := fun o => Nat.le_succ _
  refine ⟨Sl.mono ?_ (Nat.le_add_right _ 2), Sl.mono ?_ (Nat.le_add_right _ 2), ?_⟩
  · exact (((((((h.sl.setCell _ (k0 0)).setCell _ (k0 1)).setCell _ (k1 0)).setCell _ (k1 1)).setCell _ (k1 2)).setCell _ (k1 3)).setCell _ (k1 4)).setCell _ (k1 5)
  · exact (((((((h2.setCell _ (k0 0)).setCell _ (k0 1)).setCell _ (k1 0)).setCell _ (k1 1)).setCell _ (k1 2)).setCell _ (k1 3)).setCell _ (k1 4)).setCell _ (k1 5)
  · exact (((((((h.low.setCell (m0 0) _).setCell (m0 1) _).setCell (m1 0) _).setCell (m1 1) _).setCell (m1 2) _).setCell (m1 3) _).setCell (m1 4) _).setCell (m1 5) _

attribute [local go_sem] min2_int min_two in
set_option maxRecDepth 100000 in
set_option maxHeartbeats 1000000 in
theorem whole_c (neg : Bool) (B : Nat) (v : Value) (l : List Int) (w : World) (h : Sl .u8 B w v l) (hn : l.length < 140737488355328) :
    Calls Tryz.prog 4 #[.bool neg, v, .int .i64 200] w fun e w' => ∃ A1 c1 A2 c2 A5 c5,
      e = .returned (.tuple #[.agg #[.bool (neg && decide (0 < (cutL (l.take 200)).length)), .slice A1 (cutL (l.take 200)).length c1], vint (neg && decide (0 < (cutL (l.take 200)).length)) (.slice A2 (cutL (l.take 200)).length c2) (.slice A5 0 c5)]) ∧
      Sl .u8 w.heap.size w' (.slice A1 (cutL (l.take 200)).length c1) (cutL (l.take 200)) ∧ Sl .u8 w.heap.size w' (.slice A2 (cutL (l.take 200)).length c2) (cutL (l.take 200)) ∧ Below w.heap.size w w' := by
  obtain ⟨A, c, rfl, h1, hC⟩ := h.c
  have HT := Lib.hid (sl_take h 200)
  have hlen : (l.take 200).length ≤ 200 := by rw [List.length_take]; omega
  obtain ⟨i5, hi5, hz5⟩ := Option.map_eq_some_iff.1 info5
  simp only [Prod.mk.injEq] at hz5
  obtain ⟨_, hs5, _⟩ := hz5
  have hsl := fun W => (print_take_int (P := Tryz.prog) (k := .u8) 22 5 Tryz.underlying22 hi5 hs5 A c l (mn l.length 200) (by unfold mn; split <;> omega) (by unfold mn; split <;> omega) h1).1 W
  have e1 : (l.take (mn l.length 200).toNat) = l.take 200 := by
    unfold mn
    split
    · rfl
    · rw [Int.toNat_natCast, List.take_length, List.take_of_length_le (by omega)]
  rw [e1] at hsl
  clear h hC hi5 hs5
  obtain ⟨l2, hl2⟩ : ∃ l2, l2 = l.take 200 := ⟨_, rfl⟩
  rw [← hl2] at hsl HT hlen ⊢
  clear hl2 e1
  unfold mn at hsl
  obtain ⟨n, HN⟩ : ∃ n, Hid (n = (neg && decide (0 < (cutL l2).length))) := ⟨_, rfl⟩
  have HO : Hid (∀ w', Below w.heap.size w w' → Calls Tryz.prog 9 #[.bool neg, .slice A l2.length c] w' fun e w'' => ∃ A1 c1, e = .returned (.agg #[.bool n, .slice A1 (cutL l2).length c1]) ∧ Sl .u8 w'.heap.size w'' (.slice A1 (cutL l2).length c1) (cutL l2) ∧ Below w'.heap.size w' w'') := by
    intro w' hb
    refine (of_c neg _ _ _ _ (HT.out.below hb) (by omega)).mono ?_
    rintro e w1 ⟨v1, rfl, ⟨s1, rfl, hs1⟩, hb1⟩
    obtain ⟨A1, c1, rfl, _⟩ := hs1.c
    exact ⟨A1, c1, by rw [HN.out], hs1, hb1⟩
  rw [← HN.out]
  have hcl := cutL_length l2
  obtain ⟨l3, HL3⟩ : ∃ l3, Hid (l3 = cutL l2) := ⟨_, rfl⟩
  rw [← HL3.out] at HO hcl ⊢
  by_cases hlt : (200 : Int) < l.length
  all_goals
    first | rw [if_pos hlt] at hsl | rw [if_neg hlt] at hsl
    go_enter Tryz.func4, Tryz.ntmps4
    go_wp2_with (go_at_call 9; refine (HO.out _ (((Below.refl _ _).alloc (Nat.le_refl _) _).alloc (by simp) _)).mono ?_; rintro e w1 ⟨A1, c1, rfl, hs1, hb1⟩; have HS1 := Lib.hid hs1; have HB1 := Lib.hid hb1; clear hs1 hb1)
    have HX : Hid (WX w n (.slice A1 l3.length c1) l3 w1.heap.size (w1.alloc (.cells #[.bool n, .slice A1 l3.length c1] 24))) := by
      have hsz := HB1.out.size
      simp at hsz
      refine ⟨blk_alloc (blk_keep (blk_alloc (blk_new _ _) _) HB1.out (by simp; omega)) _, blk_alloc (blk_keep (by simpa using blk_new (w.alloc _) _) HB1.out (by simp)) _, blk_new _ _, by omega, ?_, ?_⟩
      · exact (((((Below.refl _ _).alloc (Nat.le_refl _) _).alloc (by simp) _)).trans (HB1.out.mono (by simp; omega))).alloc (by omega) _
      · exact (HS1.out.alloc _).mono (by simp)
    generalize w1.alloc (.cells #[.bool n, .slice A1 l3.length c1] 24) = wc at HX ⊢
    obtain ⟨x0, x1⟩ := HX.out.cells
    go_region_with (go_at_call 8; refine (told_c _ _ n l3 _ (by first | exact ⟨_, rfl, HX.out.sl⟩ | exact ⟨_, rfl, HX.out.drew.sl⟩) (by omega)).mono ?_; rintro e w2 ⟨A2, c2, A5, c5, rfl, hs2, hb2⟩; have HS2 := Lib.hid (hs2.mono (B' := w.heap.size + 2) (by have h1 := HX.out.far; have h2 := lt_blk HX.out.box; first | omega | (simp; omega))); (replace HX : Hid (WX w n (.slice A1 l3.length c1) l3 w1.heap.size w2) := by first | exact HX.out.below hb2 | exact HX.out.drew.below hb2); clear hs2 hb2 x0 x1; obtain ⟨x0, x1⟩ := HX.out.cells; obtain ⟨⟨q0, q1⟩, ⟨p0, p1, p2, p3, p4, p5⟩, fz0, fz1⟩ := HX.out.outs; unfold vint)
  all_goals go_wp2
  all_goals refine bodyPost_ret (v := .tuple #[.agg #[.bool n, .slice A1 l3.length c1], .agg #[.int .i64 2, .bool n, .slice A2 l3.length c2, .int .u64 0, .string ⟨#[]⟩, .slice A5 0 c5]]) (by simp [results, Tryz.results4, go_sem, q0, q1, p0, p1, p2, p3, p4, p5]) rfl ⟨_, _, _, _, _, _, rfl, HX.out.done HS2.out _ _ _ _ _ _ _ _⟩
end Go.Proofs.YtkkmnglnnfmnaaaGreatDoor
