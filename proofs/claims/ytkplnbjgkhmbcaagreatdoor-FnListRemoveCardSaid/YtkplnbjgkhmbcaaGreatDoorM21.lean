/- Rat.SetFloat64. -/
import Derived.Test.YtkplnbjgkhmbcaaGreatDoorM20
import Derived.Test.YtkplnbjgkhmbcaaGreatDoorM06
import Derived.Deep.DeepCutAuto
namespace Go.Proofs.YtkplnbjgkhmbcaaGreatDoor
open Go.RowKit Go.Shelf Go.Proofs.YtkplnbjgkhmbcaaGreatDoorW.PrintWords Go.Proofs.YtkplnbjgkhmbcaaGreatDoorW.PrintLast Go.Proofs.YtkplnbjgkhmbcaaGreatDoorW.PrintMore
set_option linter.unusedVariables false
set_option linter.unusedSimpArgs false

/-- What SetFloat64 leaves of the number s m p. -/
def RatF (w : World) (g : Nat) (s : Bool) (m : Nat) (p : Int) (e : Ending) (w' : World) : Prop :=
  e = .returned (.pointer (some ⟨g, 0, none⟩)) ∧ (∃ na va xs vb ys, RT w' g na va xs vb ys ∧ (xs = [] → na = false) ∧ bval na xs * 2 ^ (-p).toNat = smag s m * 2 ^ p.toNat * leN ys ∧ 0 < leN ys ∧ xs.length ≤ 39 ∧ ys.length ≤ 39 ∧ ys ≠ []) ∧ Below g w w'

/-- A Rat on the way: its numerator one word in a row of the call's own. -/
structure RS (w0 : World) (g ra : Nat) (na : Bool) (x : Int) (vb : Value) (w : World) : Prop where
  blk : w.heap[g]? = some (.cells #[.bool na, .slice (some ⟨ra, 0, none⟩) 1 1, .bool false, vb] 198 (0, 0))
  row : IRow .u64 w ra [x]
  gr : g < ra
  rl : ra < w.heap.size
  low : Below g w0 w
theorem RS.below {w0 w w' : World} {g ra : Nat} {na : Bool} {x : Int} {vb : Value} (h : RS w0 g ra na x vb w) (hb : Below w.heap.size w w') : RS w0 g ra na x vb w' :=
  ⟨blk_below h.blk hb, h.row.below hb h.rl, h.gr, Nat.lt_of_lt_of_le h.rl hb.size, h.low.trans (hb.mono (Nat.le_of_lt (Nat.lt_trans h.gr h.rl)))⟩
theorem RS.drew {w0 w : World} {g ra : Nat} {na : Bool} {x : Int} {vb : Value} (h : RS w0 g ra na x vb w) : RS w0 g ra na x vb w.drew := h.below ((Below.refl _ _).drew)
theorem RS.neg {w0 w : World} {g ra : Nat} {na : Bool} {x : Int} {vb : Value} (h : RS w0 g ra na x vb w) (b : Bool) : RS w0 g ra b x vb (w.setCell ⟨g, 0, none⟩ (.bool b)) :=
  ⟨blk_put h.blk 0 _ rfl, h.row.setOther _ _ (Nat.ne_of_lt h.gr), h.gr, by simpa [World.setCell] using h.rl, h.low.setCell (Nat.le_refl _) _⟩
theorem rs_wrote {w w' : World} {g : Nat} {x : Int} {e : Ending} (hk : w.heap[g]? = some (.cells #[.bool false, .slice none 0 0, .bool false, .slice none 0 0] 198 (0, 0))) (h : Wrote w g 0 x false e w') : RS w g w.heap.size false x (.slice none 0 0) w' := by
  obtain ⟨_, W, rfl, hr, hb, hz⟩ := h
  have hg := blk_lt hk
  exact ⟨blk_put (blk_put ((hb.block g hg).trans hk) 1 _ rfl) 0 _ rfl, (hr.setOther _ _ (Nat.ne_of_lt hg)).setOther _ _ (Nat.ne_of_lt hg), hg, by simpa [World.setCell] using hz, ((hb.mono (Nat.le_of_lt hg)).setCell (Nat.le_refl _) _).setCell (Nat.le_refl _) _⟩
/-- Both of one word. -/
structure RS2 (w0 : World) (g ra rb : Nat) (na : Bool) (x : Int) (w : World) : Prop where
  a : RS w0 g ra na x (.slice (some ⟨rb, 0, none⟩) 1 1) w
  row : IRow .u64 w rb [1]
  gr : g < rb
  rl : rb < w.heap.size
theorem rs2_wrote {w0 w w' : World} {g ra : Nat} {na : Bool} {x : Int} {e : Ending} (h0 : RS w0 g ra na x (.slice none 0 0) w) (h : Wrote w g 2 1 false e w') : RS2 w0 g ra w.heap.size na x w' := by
  obtain ⟨_, W, rfl, hr, hb, hz⟩ := h
  have hg := blk_lt h0.blk
  have h1 := h0.below hb
  exact ⟨⟨blk_put (blk_put h1.blk 3 _ rfl) 2 _ rfl, (h1.row.setOther _ _ (Nat.ne_of_lt h1.gr)).setOther _ _ (Nat.ne_of_lt h1.gr), h1.gr, by simpa [World.setCell] using h1.rl, (h1.low.setCell (Nat.le_refl _) _).setCell (Nat.le_refl _) _⟩, (hr.setOther _ _ (Nat.ne_of_lt hg)).setOther _ _ (Nat.ne_of_lt hg), hg, by simpa [World.setCell] using hz⟩
theorem RS2.drew {w0 w : World} {g ra rb : Nat} {na : Bool} {x : Int} (h : RS2 w0 g ra rb na x w) : RS2 w0 g ra rb na x w.drew := ⟨h.a.drew, h.row, h.gr, h.rl⟩
theorem words_one {x : Int} (h0 : 0 < x) (h1 : x < 18446744073709551616) : Words [x] ∧ Top [x] := ⟨fun z hz => by rw [List.mem_singleton] at hz; omega, fun _ => by simp; omega⟩
theorem irow_sl1 {w : World} {r : Nat} {x : Int} (h : IRow .u64 w r [x]) (hl : r < w.heap.size) : Sl .u64 r w (.slice (some ⟨r, 0, none⟩) 1 1) [x] := by
  have := h.sl' hl (c := 1) (by simp) (by simp)
  simpa using this
theorem rt_shift_b {w0 w w' : World} {g ra rb : Nat} {na : Bool} {x : Int} {s : Nat} {e : Ending} (h : RS2 w0 g ra rb na x w) (h0 : 0 < x) (h1 : x < 18446744073709551616) (hs : Shifted w g 2 false 1 s e w') :
    ∃ u zs, RT w' g na (.slice (some ⟨ra, 0, none⟩) 1 1) [x] u zs ∧ leN zs = 1 * 2 ^ s ∧ zs.length ≤ s / 64 + 2 ∧ Below g w0 w' := by
  obtain ⟨_, W, u, zs, rfl, g1, g2, g3, g4, g5, g6⟩ := hs
  have h2 := h.a.below g6
  obtain ⟨wx, tx⟩ := words_one h0 h1
  refine ⟨u, zs, ⟨blk_put (blk_put h2.blk 3 _ rfl) 2 _ rfl, ?_, ?_, wx, tx, g2, g3⟩, g4, g5, (h2.low.setCell (Nat.le_refl _) _).setCell (Nat.le_refl _) _⟩
  · exact (((irow_sl1 h2.row h2.rl).mono h2.gr).setCell (p := ⟨g, 3, none⟩) _ (by show g < g + 1; omega)).setCell (p := ⟨g, 2, none⟩) _ (by show g < g + 1; omega)
  · have hg : g + 1 ≤ w.heap.size := by have := h.a.gr; have := h.a.rl; omega
    exact ((g1.mono hg).setCell (p := ⟨g, 3, none⟩) _ (by show g < g + 1; omega)).setCell (p := ⟨g, 2, none⟩) _ (by show g < g + 1; omega)
theorem rt_shift_a {w0 w w' : World} {g ra rb : Nat} {na : Bool} {x : Int} {s : Nat} {e : Ending} (h : RS2 w0 g ra rb na x w) (hs : Shifted w g 0 na x s e w') :
    ∃ u zs, RT w' g na u zs (.slice (some ⟨rb, 0, none⟩) 1 1) [1] ∧ leN zs = x * 2 ^ s ∧ zs.length ≤ s / 64 + 2 ∧ Below g w0 w' := by
  obtain ⟨_, W, u, zs, rfl, g1, g2, g3, g4, g5, g6⟩ := hs
  have h2 := h.a.below g6
  have hr := h.row.below g6 h.rl
  obtain ⟨wx, tx⟩ := words_one (x := 1) (by omega) (by omega)
  refine ⟨u, zs, ⟨blk_put (blk_put h2.blk 1 _ rfl) 0 _ rfl, ?_, ?_, g2, g3, wx, tx⟩, g4, g5, (h2.low.setCell (Nat.le_refl _) _).setCell (Nat.le_refl _) _⟩
  · have hg : g + 1 ≤ w.heap.size := by have := h.a.gr; have := h.a.rl; omega
    exact ((g1.mono hg).setCell (p := ⟨g, 1, none⟩) _ (by show g < g + 1; omega)).setCell (p := ⟨g, 0, none⟩) _ (by show g < g + 1; omega)
  · exact (((irow_sl1 hr (Nat.lt_of_lt_of_le h.rl g6.size)).mono h.gr).setCell (p := ⟨g, 1, none⟩) _ (by show g < g + 1; omega)).setCell (p := ⟨g, 0, none⟩) _ (by show g < g + 1; omega)
theorem rt_same {w0 w : World} {g ra rb : Nat} {na : Bool} {x : Int} (h : RS2 w0 g ra rb na x w) (h0 : 0 < x) (h1 : x < 18446744073709551616) (n : Nat) :
    RT (((w.drewN n).setCell ⟨g, 1, none⟩ (.slice (some ⟨ra, 0, none⟩) 1 1)).setCell ⟨g, 0, none⟩ (.bool na)) g na (.slice (some ⟨ra, 0, none⟩) 1 1) [x] (.slice (some ⟨rb, 0, none⟩) 1 1) [1] ∧ Below g w0 (((w.drewN n).setCell ⟨g, 1, none⟩ (.slice (some ⟨ra, 0, none⟩) 1 1)).setCell ⟨g, 0, none⟩ (.bool na)) := by
  have hb : Below w.heap.size w (w.drewN n) := pw_below_drewN (Below.refl _ _) n
  have h2 := h.a.below hb
  have hr := h.row.below hb h.rl
  obtain ⟨wx, tx⟩ := words_one h0 h1
  obtain ⟨w1, t1⟩ := words_one (x := 1) (by omega) (by omega)
  refine ⟨⟨blk_put (blk_put h2.blk 1 _ rfl) 0 _ rfl, ?_, ?_, wx, tx, w1, t1⟩, (h2.low.setCell (Nat.le_refl _) _).setCell (Nat.le_refl _) _⟩
  · exact (((irow_sl1 h2.row h2.rl).mono h2.gr).setCell (p := ⟨g, 1, none⟩) _ (by show g < g + 1; omega)).setCell (p := ⟨g, 0, none⟩) _ (by show g < g + 1; omega)
  · exact (((irow_sl1 hr (Nat.lt_of_lt_of_le h.rl hb.size)).mono h.gr).setCell (p := ⟨g, 1, none⟩) _ (by show g < g + 1; omega)).setCell (p := ⟨g, 0, none⟩) _ (by show g < g + 1; omega)
/-- The number, at the end. -/
theorem rat_end (s : Bool) (m : Nat) (p m1 s1 : Int) (xs ys : List Int) (hv : Hv m (-p) m1 s1) (ha : leN xs = ratA m1 s1) (hb : leN ys = ratB s1) : bval s xs * 2 ^ (-p).toNat = smag s m * 2 ^ p.toNat * leN ys := by
  have h := hv_rat hv rfl
  rw [← ha, ← hb] at h
  unfold bval smag
  cases s
  · exact h
  · simp only [if_true, Int.neg_mul]; rw [h]

/-- What a shift leaves, for norm. -/
def Norm (w0 : World) (g o : Nat) (s : Bool) (m : Nat) (p : Int) (e : Ending) (w' : World) : Prop :=
  e = .returned (.pointer (some ⟨g, o, none⟩)) ∧ ∃ va xs vb ys, RT w' g s va xs vb ys ∧ NQ xs ys ∧ xs.length ≤ 39 ∧ ys.length ≤ 39 ∧ bval s xs * 2 ^ (-p).toNat = smag s m * 2 ^ p.toNat * leN ys ∧ 0 < leN ys ∧ Below g w0 w'
theorem norm_end {w0 w : World} {g o : Nat} {s : Bool} {m : Nat} {p : Int} {e : Ending} (h : Norm w0 g o s m p e w) : e = .returned (.pointer (some ⟨g, o, none⟩)) ∧ Calls Tryz.prog 141 #[.pointer (some ⟨g, 0, none⟩)] w (RatF w0 g s m p) := by
  obtain ⟨he, va, xs, vb, ys, h1, h2, h3, h4, h5, h6, h7⟩ := h
  refine ⟨he, (norm_c g s va vb xs ys w h1 h2).mono ?_⟩
  rintro e w' ⟨rfl, hr, hb⟩
  exact ⟨rfl, ⟨s, va, xs, vb, ys, hr, fun h => absurd h h2.nx, h5, h6, h3, h4, h2.ny⟩, h7.trans hb⟩
theorem ne_nil_of_pos {l : List Int} (h : 0 < leN l) : l ≠ [] := fun e => by rw [e] at h; simp [leN] at h
theorem norm_b {w0 w w' : World} {g ra rb : Nat} {s : Bool} {m : Nat} {p m1 : Int} {k : Nat} {e : Ending} (h : RS2 w0 g ra rb s m1 w) (h0 : 0 < m1) (h1 : m1 < 9007199254740992) (hk : k ≤ 1074) (hodd : m1 % 2 = 1) (hv : Hv m (-p) m1 k) (hs : Shifted w g 2 false 1 k e w') : Norm w0 g 2 s m p e w' := by
  obtain ⟨u, zs, r1, r2, r3, r4⟩ := rt_shift_b h h0 (by omega) hs
  rw [Int.one_mul] at r2
  have hp := two_pos k
  have hb : leN zs = ratB k := by unfold ratB; rw [Int.toNat_natCast]; exact r2
  have ha : leN [m1] = ratA m1 k := by unfold ratA; rw [leN_one, show (-(k : Int)).toNat = 0 from by omega]; simp
  refine ⟨hs.1, _, [m1], u, zs, r1, ⟨?_, by simp, ne_nil_of_pos (by omega), by simp, by omega, Or.inl ⟨rfl, Or.inr (by rw [leN_one]; omega)⟩⟩, by simp, by omega, rat_end s m p m1 k [m1] zs hv ha hb, by omega, r4⟩
  rw [ha, hb]; exact hv_bez hv (Or.inr hodd)
theorem norm_a {w0 w w' : World} {g ra rb : Nat} {s : Bool} {m : Nat} {p m1 : Int} {k : Nat} {e : Ending} (h : RS2 w0 g ra rb s m1 w) (h0 : 0 < m1) (hk : k ≤ 1074) (hv : Hv m (-p) m1 (-(k : Int))) (hs : Shifted w g 0 s m1 k e w') : Norm w0 g 0 s m p e w' := by
  obtain ⟨u, zs, r1, r2, r3, r4⟩ := rt_shift_a h hs
  have hp := two_pos k
  have hpos : 0 < m1 * 2 ^ k := Int.mul_pos h0 hp
  have ha : leN zs = ratA m1 (-(k : Int)) := by unfold ratA; rw [Int.neg_neg, Int.toNat_natCast]; exact r2
  have hb : leN [1] = ratB (-(k : Int)) := by unfold ratB; rw [leN_one, show (-(k : Int)).toNat = 0 from by omega]; simp
  refine ⟨hs.1, u, zs, _, [1], r1, ⟨?_, ne_nil_of_pos (by omega), by simp, by omega, by simp, Or.inr ⟨rfl, Or.inr (by rw [leN_one]; omega)⟩⟩, by omega, by simp, rat_end s m p m1 _ zs [1] hv ha hb, by rw [leN_one]; omega, r4⟩
  rw [leN_one]; exact bez_one _
theorem norm_0 {w0 w : World} {g ra rb : Nat} {s : Bool} {m : Nat} {p m1 : Int} (h : RS2 w0 g ra rb s m1 w) (h0 : 0 < m1) (h1 : m1 < 9007199254740992) (hv : Hv m (-p) m1 0) (n : Nat) : Norm w0 g 0 s m p (.returned (.pointer (some ⟨g, 0, none⟩))) (((w.drewN n).setCell ⟨g, 1, none⟩ (.slice (some ⟨ra, 0, none⟩) 1 1)).setCell ⟨g, 0, none⟩ (.bool s)) := by
  obtain ⟨r1, r4⟩ := rt_same h h0 (by omega) n
  have ha : leN [m1] = ratA m1 0 := by unfold ratA; rw [leN_one]; simp
  have hb : leN [1] = ratB 0 := by unfold ratB; rw [leN_one]; simp
  refine ⟨rfl, _, [m1], _, [1], r1, ⟨?_, by simp, by simp, by simp, by simp, Or.inr ⟨rfl, Or.inl rfl⟩⟩, by simp, by simp, rat_end s m p m1 0 [m1] [1] hv ha hb, by rw [leN_one]; omega, r4⟩
  rw [leN_one]; exact bez_one _

set_option maxRecDepth 100000 in
theorem sameNil_c (w : World) : Calls Tryz.prog 195 #[.slice none 0 0, .slice none 0 0] w fun e w' => e = .returned (.bool false) ∧ ∃ k, w' = w.drewN k := by
  go_enter Tryz.func195, Tryz.ntmps195
  go_wp2
  go_quiet (fail)
  go_wp2
  go_ret
  exact ⟨rfl, _, rfl⟩
set_option maxRecDepth 100000 in
theorem lshNil_c (w : World) : Calls Tryz.prog 173 #[.slice none 0 0, .slice none 0 0, .int .u64 0] w fun e w' => ∃ u, e = .returned u ∧ Sl .u64 w.heap.size w' u [] ∧ Below w.heap.size w w' := by
  have HS := Lib.hid (sameNil_c w)
  have HA := Lib.hid (fun W => alias_c none 0 0 W)
  have HN := Lib.hid (fun (n : Nat) => natSet_c 0 (.slice none 0 0) [] (w.drewN n) Sl.nil (by simp))
  go_enter Tryz.func173, Tryz.ntmps173
  go_wp2_with (first
    | (go_at_call 195; (with_reducible refine HS.out.mono ?_); rintro e w1 ⟨rfl, k, rfl⟩)
    | (go_at_call 164; (with_reducible refine (HA.out _).mono ?_); rintro e w1 ⟨rfl, k2, rfl⟩)
    | (go_at_call 160; (with_reducible refine (HN.out _).mono ?_); rintro e w1 ⟨u, rfl, hs, hb⟩; have HU := Lib.hid (And.intro hs hb); clear hs hb))
  go_ret
  exact ⟨_, rfl, HU.out.1, (pw_below_drewN (Below.refl _ _) _).trans HU.out.2⟩
set_option maxRecDepth 100000 in
theorem intLshNil_c (g o : Nat) (b : Bool) (w : World) (c0 : w.cell? ⟨g, o, none⟩ = some (.bool b)) (c1 : w.cell? ⟨g, o + 1, none⟩ = some (.slice none 0 0)) (f0 : w.frozen? ⟨g, o, none⟩ = false) (f1 : w.frozen? ⟨g, o + 1, none⟩ = false) :
    Calls Tryz.prog 140 #[.pointer (some ⟨g, o, none⟩), .pointer (some ⟨g, o, none⟩), .int .u64 0] w fun e w' => e = .returned (.pointer (some ⟨g, o, none⟩)) ∧ ∃ W A c, w' = (W.setCell ⟨g, o + 1, none⟩ (.slice A 0 c)).setCell ⟨g, o, none⟩ (.bool b) ∧ Below w.heap.size w W := by
  have HC := Lib.hid (fun w' => lshNil_c w')
  have hlt := lt_of_cell c0
  have HB0 : Hid (Below w.heap.size w w.drew) := (Below.refl _ _).drew
  go_enter Tryz.func140, Tryz.ntmps140
  go_wp2
  go_region_with (go_at_call 173; refine (HC.out _).mono ?_; rintro e w1 ⟨u, rfl, g1, g6⟩; obtain ⟨A1, k1, rfl, _⟩ := g1.c; have hb1 := HB0.out.trans g6; have HG := Lib.hid hb1; have q0 := (hb1.cell (p := ⟨g, o, none⟩) hlt).trans c0; have q1 := (hb1.cell (p := ⟨g, o + 1, none⟩) hlt).trans c1; have r0 := (hb1.frozen (p := ⟨g, o, none⟩) hlt).trans f0; have r1 := (hb1.frozen (p := ⟨g, o + 1, none⟩) hlt).trans f1; clear g1 g6 hb1)
  all_goals go_wp2
  all_goals go_ret
  all_goals exact ⟨rfl, w1, A1, k1, rfl, HG.out⟩

/-- A Rat of 0 on the way. -/
structure RZ (w0 : World) (g : Nat) (va vb : Value) (w : World) : Prop where
  blk : w.heap[g]? = some (.cells #[.bool false, va, .bool false, vb] 198 (0, 0))
  low : Below g w0 w
theorem RZ.below {w0 w w' : World} {g : Nat} {va vb : Value} (h : RZ w0 g va vb w) (hb : Below w.heap.size w w') : RZ w0 g va vb w' :=
  ⟨blk_below h.blk hb, h.low.trans (hb.mono (Nat.le_of_lt (blk_lt h.blk)))⟩
theorem RZ.drew {w0 w : World} {g : Nat} {va vb : Value} (h : RZ w0 g va vb w) : RZ w0 g va vb w.drew := h.below ((Below.refl _ _).drew)
theorem rz_wrote {w0 w w' : World} {g : Nat} {e : Ending} (h0 : RZ w0 g (.slice none 0 0) (.slice none 0 0) w) (h : Wrote w g 2 1 false e w') : RZ w0 g (.slice none 0 0) (.slice (some ⟨w.heap.size, 0, none⟩) 1 1) w' ∧ IRow .u64 w' w.heap.size [1] ∧ w.heap.size < w'.heap.size ∧ g < w.heap.size := by
  obtain ⟨_, W, rfl, hr, hb, hz⟩ := h
  have hg := blk_lt h0.blk
  have h1 := h0.below hb
  exact ⟨⟨blk_put (blk_put h1.blk 3 _ rfl) 2 _ rfl, (h1.low.setCell (Nat.le_refl _) _).setCell (Nat.le_refl _) _⟩, (hr.setOther _ _ (Nat.ne_of_lt hg)).setOther _ _ (Nat.ne_of_lt hg), by simpa [World.setCell] using hz, hg⟩
set_option maxRecDepth 100000 in
/-- norm of 0. -/
theorem normZ_c (g rb c : Nat) (A : Option Addr) (w0 w : World) (h : RZ w0 g (.slice A 0 c) (.slice (some ⟨rb, 0, none⟩) 1 1) w) (hr : IRow .u64 w rb [1]) (hrl : rb < w.heap.size) (hg : g < rb) (s : Bool) (p : Int) :
    Calls Tryz.prog 141 #[.pointer (some ⟨g, 0, none⟩)] w (RatF w0 g s 0 p) := by
  have c0 := blk_cell h.blk 0 _ rfl
  have c1 := blk_cell h.blk 1 _ rfl
  have c3 := blk_cell h.blk 3 _ rfl
  have f0 := blk_free h.blk 0
  have f3 := blk_free h.blk 3
  have h1 : RZ w0 g (.slice A 0 c) (.slice (some ⟨rb, 0, none⟩) 1 1) (w.setCell ⟨g, 0, none⟩ (.bool false)) := ⟨blk_put h.blk 0 _ rfl, h.low.setCell (Nat.le_refl _) _⟩
  have hr1 := hr.setOther ⟨g, 0, none⟩ (.bool false) (Nat.ne_of_lt hg)
  have HS := Lib.hid (setWordR_c rb 1 1 _ (by omega) hr1)
  have hgr : rb ≠ g := by omega
  have hrl1 : rb < (w.setCell ⟨g, 0, none⟩ (.bool false)).heap.size := by simpa [World.setCell] using hrl
  have HE : Hid (RatF w0 g s 0 p (.returned (.pointer (some ⟨g, 0, none⟩))) (((w.setCell ⟨g, 0, none⟩ (.bool false)).setCell ⟨rb, 0, none⟩ (.int .u64 1)).setCell ⟨g, 3, none⟩ (.slice (some ⟨rb, 0, none⟩) 1 1))) := by
    obtain ⟨wx, tx⟩ := words_one (x := 1) (by omega) (by omega)
    have hr2 := (irow_set1 (y := 1) hr1)
    refine Lib.hid ⟨rfl, ⟨false, .slice A 0 c, [], .slice (some ⟨rb, 0, none⟩) 1 1, [1], ⟨blk_put (blk_far h1.blk (by show g ≠ rb; omega) _) 3 _ rfl, ?_, ?_, (fun _ h => by cases h), (fun h => absurd rfl h), wx, tx⟩, (fun _ => rfl), ?_, by simp [leN], by simp, by simp, by simp⟩, ((h1.low.setCell (p := ⟨rb, 0, none⟩) (Nat.le_of_lt hg) _).setCell (Nat.le_refl _) _)⟩
    · refine ⟨A, c, rfl, Nat.zero_le _, by simp, fun h => absurd rfl h⟩
    · exact ((irow_sl1 hr2 (by simpa [World.setCell] using hrl)).mono hg).setCell (p := ⟨g, 3, none⟩) _ (by show g < g + 1; omega)
    · simp [bval, smag, leN]
  clear h h1 hr hr1 hrl1
  go_enter Tryz.func141, Tryz.ntmps141
  go_wp2_with (go_at_call 133; (with_reducible refine HS.out.mono ?_); rintro e w1 ⟨rfl, rfl⟩)
  go_ret
  exact HE.out

set_option maxRecDepth 100000 in
set_option maxHeartbeats 8000000 in
theorem setFloat64_c (g b : Nat) (w : World) (hb : b < 18446744073709551616) (s : Bool) (m : Nat) (p : Int) (hd : fdat b = .number s m p) (hk : w.heap[g]? = some (.cells #[.bool false, .slice none 0 0, .bool false, .slice none 0 0] 198 (0, 0))) :
    Calls Tryz.prog 105 #[.pointer (some ⟨g, 0, none⟩), .float .f64 b] w (RatF w g s m p) := by
  have hc := call_bits b
  have hpn := part_num b s m p hb hd
  have hne : b / 4503599627370496 % 2048 ≠ 2047 := by
    intro h
    by_cases hf : b % 4503599627370496 = 0
    · have := fdat_inf b hb h hf; rw [hd] at this; cases this
    · obtain ⟨f, this⟩ := fdat_nan b hb h hf; rw [hd] at this; cases this
  have e1 : Go.bits .and .u64 ((b : Int) / 4503599627370496) 2047 = ((b / 4503599627370496 % 2048 : Nat) : Int) := by
    have := and_mask (b / 4503599627370496) 11 (by omega) (by omega)
    exact this
  have e2 : Go.bits .and .u64 (b : Int) 4503599627370495 = ((b % 4503599627370496 : Nat) : Int) := and_mask b 52 hb (by omega)
  have e3 : Go.bits .or .u64 ((b % 4503599627370496 : Nat) : Int) 4503599627370496 = ((4503599627370496 + b % 4503599627370496 : Nat) : Int) := or_high (b % 4503599627370496) 52 (by omega) (by omega)
  have HBZ := Lib.hid (below_zero b s m p hd)
  have HM : m = if b / 4503599627370496 % 2048 = 0 then b % 4503599627370496 else 4503599627370496 + b % 4503599627370496 := hpn.2.1
  have HP : p = if b / 4503599627370496 % 2048 = 0 then (-1074 : Int) else ((b / 4503599627370496 % 2048 : Nat) : Int) - 1075 := hpn.2.2
  obtain ⟨e, he⟩ : ∃ e, b / 4503599627370496 % 2048 = e := ⟨_, rfl⟩
  obtain ⟨f, hf⟩ : ∃ f, b % 4503599627370496 = f := ⟨_, rfl⟩
  have he9 : e < 2048 := by omega
  have hf9 : f < 4503599627370496 := by omega
  rw [he] at hne
  rw [he, hf] at HM
  rw [he] at HP
  rw [he] at e1
  rw [hf] at e2 e3
  have e3' : Go.bits .or .u64 (f : Int) 4503599627370496 = ((4503599627370496 + f : Nat) : Int) := e3
  have hm9 : m < 9007199254740992 := by rw [HM]; split <;> omega
  have hp9 : -1074 ≤ p ∧ p ≤ 971 := by rw [HP]; split <;> omega
  have hmp : m = 0 → p = -1074 := by
    intro h0; rw [HM] at h0; rw [HP]
    split at h0
    · rename_i h; rw [if_pos h]
    · omega
  have HMP := Lib.hid (And.intro HM HP)
  have HB := Lib.hid hk
  have HQ := Lib.hid (And.intro hm9 (And.intro hp9 hmp))
  have hx0 : ((e : Int) == 2047) = false := beq_eq_false_iff_ne.2 (by omega)
  obtain ⟨E, hE⟩ : ∃ E, p + 52 = E := ⟨_, rfl⟩
  have HE := Lib.hid hE
  clear e3 he hf hpn hne hk HM HP hm9 hp9 hmp hE hb
  go_enter Tryz.func105, Tryz.ntmps105
  go_upto_block 0 with fail
  go_cut [6, 7] (fun a c wx => a = .int .u64 (m : Int) ∧ c = .int .i64 E ∧ wx = w)
  case first =>
    by_cases h0 : e = 0
    · subst h0
      have hE1 : Hid (E = -1022 ∧ m = f) := Lib.hid (by have := HMP.out; simp at this; have := HE.out; omega)
      obtain ⟨rfl, rfl⟩ := hE1.out
      clear hE1 e1 e3' hx0
      go_wp2
      go_meet
      exact ⟨rfl, rfl, rfl⟩
    · have hbz : ((e : Int) == 0) = false := beq_eq_false_iff_ne.2 (by omega)
      have hE1 : Hid (E = (e : Int) - 1023 ∧ m = 4503599627370496 + f) := Lib.hid (by have := HMP.out; rw [if_neg h0, if_neg h0] at this; have := HE.out; omega)
      obtain ⟨rfl, rfl⟩ := hE1.out
      clear hE1 h0
      go_wp2
      go_meet
      exact ⟨rfl, rfl, rfl⟩
  case rest =>
    obtain ⟨rfl, rfl, rfl⟩ := hcut
    have HE2 : Hid (52 - E = -p ∧ -1074 ≤ -p ∧ -p ≤ 1074) := Lib.hid (by have := HE.out; have := HQ.out; omega)
    have hE3 : -2000 ≤ E ∧ E ≤ 2000 := by have := HE.out; have := HQ.out; omega
    obtain ⟨S, hS⟩ : ∃ S, 52 - E = S := ⟨_, rfl⟩
    have HS := Lib.hid hS
    go_upto_block 1 with fail
    go_cut [6, 8] (fun a c wx => ∃ m1 s1, a = .int .u64 m1 ∧ c = .int .i64 s1 ∧ Hid (Hv m S m1 s1) ∧ Hid (s1 ≤ 0 ∨ m1 % 2 = 1) ∧ wx = wc)
    case first =>
      have hS2 : -1074 ≤ S ∧ S ≤ 1074 := by have := HE2.out; omega
      have HS2 := Lib.hid hS2
      clear hS hS2
      go_wp2_with fail
      go_loop [6, 8] (fun a c => ∃ (m1 : Nat) (s1 : Int), a = .int .u64 m1 ∧ c = .int .i64 s1 ∧ Hid (Hv m S m1 s1)) (fun _ c => (intOf c).toNat)
      case atStart => exact ⟨m, S, rfl, rfl, Lib.hid (hv_start m S (by omega))⟩
      case round =>
        obtain ⟨m1, s1, rfl, rfl, HV⟩ := hrel
        have hm1 : m1 < 9007199254740992 := by have := HV.out.mM; have := HQ.out.1; omega
        have hs1 : -1074 ≤ s1 ∧ s1 ≤ 1074 := by
          have h1 := HS2.out
          obtain ⟨j, _, hj⟩ := HV.out.ex
          rcases Int.lt_or_le s1 0 with h | h
          · have := (HV.out.low h).2; omega
          · omega
        have a1 : Go.bits .and .u64 (m1 : Int) 1 = ((m1 % 2 : Nat) : Int) := and_mask m1 1 (by omega) (by omega)
        by_cases hm : m1 % 2 = 0
        · rw [hm] at a1
          by_cases hs : 0 < s1
          · have HV2 := Lib.hid (hv_step HV.out (by omega) hs)
            have hsh : Op.shift .shr .u64 (m1 : Int) .u64 1 = pure (.int .u64 ((m1 / 2 : Nat) : Int)) := by
              rw [shift_shr_any .u64 .u64 m1 1 (by omega)]
              rfl
            rw [show ((m1 : Int) / 2) = ((m1 / 2 : Nat) : Int) from by omega] at HV2
            generalize m1 / 2 = h2 at hsh HV2
            clear hm
            go_wp2
            go_round
            case rel => exact ⟨h2, s1 - 1, rfl, rfl, HV2⟩
            case measure => simp [intOf]; omega
          · clear hm
            go_wp2
            go_meet
            exact ⟨m1, s1, rfl, rfl, HV, Lib.hid (Or.inl (by omega)), rfl⟩
        · have hm2 : m1 % 2 = 1 := by omega
          rw [hm2] at a1
          clear hm
          go_wp2
          go_meet
          exact ⟨m1, s1, rfl, rfl, HV, Lib.hid (Or.inr (by omega)), rfl⟩
    case rest =>
      obtain ⟨m1, s1, rfl, rfl, HV, HX, rfl⟩ := hcut
      obtain ⟨t, ht⟩ : ∃ t, (f64ord b 0 == some .lt) = t := ⟨_, rfl⟩
      have hord : (FloatKind.f64.format.order b 0 == some Ordering.lt) = t := ht
      have HT : Hid (t = (s && decide (m ≠ 0))) := Lib.hid (ht.symm.trans HBZ.out)
      have hV := HV.out
      have hQ := HQ.out
      have hE2 := HE2.out
      have HSP : Hid (S = -p) := Lib.hid (hS.symm.trans hE2.1)
      have hs1b : -1074 ≤ s1 ∧ s1 ≤ 1074 := by
        obtain ⟨j, _, hj⟩ := hV.ex
        rcases Int.lt_or_le s1 0 with h | h
        · have := (hV.low h).2; omega
        · omega
      have hm1b : 0 ≤ m1 ∧ m1 < 9007199254740992 := ⟨hV.m0, by have := hV.mM; omega⟩
      clear ht HBZ hd hE3 hE2 e1 e2 e3' hx0 hc he9 hf9 HMP HE HE2 hS HS
      by_cases hm0 : m = 0
      · have hts : t = false := by rw [HT.out]; simp [hm0]
        subst hts
        subst hm0
        have hp := hQ.2.2 rfl
        have hm1 : m1 = 0 := by have := hV.mM; have := hV.m0; omega
        subst hm1
        have hs0 : s1 = 0 := by
          have hS := HSP.out
          rcases HX.out with h | h
          · rcases Int.lt_or_le s1 0 with h2 | h2
            · have := (hV.low h2).2; omega
            · omega
          · omega
        subst hs0
        have HU := Lib.hid (intSetUint64Z_c g 0 false wc (blk_cell HB.out 0 _ rfl) (blk_cell HB.out 1 _ rfl) (blk_free HB.out 0) (blk_free HB.out 1))
        have HW1 : Hid (RZ wc g (.slice none 0 0) (.slice none 0 0) ((wc.setCell ⟨g, 0 + 1, none⟩ (.slice none 0 0)).setCell ⟨g, 0, none⟩ (.bool false))) := Lib.hid ⟨blk_put (blk_put HB.out 1 _ rfl) 0 _ rfl, ((Below.refl g wc).setCell (p := ⟨g, 0 + 1, none⟩) (Nat.le_refl _) _).setCell (p := ⟨g, 0, none⟩) (Nat.le_refl _) _⟩
        have hw0 : IntKind.i64.wrap 0 = 0 := by decide
        have hw1 : IntKind.u64.wrap 0 = 0 := by decide
        clear hm1b hQ hV hs1b HT
        go_upto_region 17 with (go_at_call 138; (with_reducible refine HU.out.mono ?_); rintro e w1 ⟨rfl, hw1⟩; rw [← hw1] at HW1; clear hw1; have q0 := blk_cell HW1.out.blk 0 _ rfl; have f0 := blk_free HW1.out.blk 0)
        have HR2 : Hid (RZ wc g (.slice none 0 0) (.slice none 0 0) (w1.setCell ⟨g, 0, none⟩ (.bool false))) := Lib.hid ⟨blk_put HW1.out.blk 0 _ rfl, HW1.out.low.setCell (Nat.le_refl _) _⟩
        clear HW1 q0 f0 hord HU
        generalize w1.setCell ⟨g, 0, none⟩ (.bool false) = w2 at HR2 ⊢
        go_region_held3 (fun _ => True) (trivial) (first | (go_at_call 139; (refine (intOne_c _).mono ?_); rintro e w3 ⟨gx, u, rfl, hgx, hp, hb⟩; have HP := Lib.hid (And.intro hgx hp); have HR3 := Lib.hid (HR2.out.drew.below hb); clear hgx hp hb) | (go_at_call 132; (refine (intSetOneAt_c gx 0 g 2 false false u 1 _ HP.out.2 (by have h1 := HP.out.1; have h2 := blk_lt HR2.out.blk; have h4 : w2.drew.heap.size = w2.heap.size := rfl; omega) HR3.out.blk rfl rfl).mono ?_); intro e w4 hw4; have HR4 := Lib.hid (rz_wrote HR3.out hw4); obtain ⟨rfl, _⟩ := hw4))
        clear HR2 HP
        have HL := Lib.hid (intLshNil_c g 0 false w4.drew (blk_cell HR4.out.1.drew.blk 0 _ rfl) (blk_cell HR4.out.1.drew.blk 1 _ rfl) (blk_free HR4.out.1.drew.blk 0) (blk_free HR4.out.1.drew.blk 1))
        go_wp2_with fail
        go_region_held3 (fun _ => True) (trivial) (first | (go_at_call 140; (with_reducible refine HL.out.mono ?_); rintro e w5 ⟨rfl, W, A, c, hw5, hb⟩; have HN := Lib.hid (normZ_c g _ c A wc w5 (by rw [hw5]; exact ⟨blk_put (blk_put (HR4.out.1.drew.below hb).blk 1 _ rfl) 0 _ rfl, ((HR4.out.1.drew.below hb).low.setCell (Nat.le_refl _) _).setCell (Nat.le_refl _) _⟩) (by rw [hw5]; exact (((HR4.out.2.1.drew.below hb HR4.out.2.2.1).setOther _ _ (Nat.ne_of_lt HR4.out.2.2.2)).setOther _ _ (Nat.ne_of_lt HR4.out.2.2.2))) (by rw [hw5]; have := Nat.lt_of_lt_of_le HR4.out.2.2.1 hb.size; simpa [World.setCell] using this) HR4.out.2.2.2 s p); clear hw5 hb))
        go_wp2_with (go_at_call 141; (with_reducible refine HN.out.mono ?_); intro e w6 hw6; have HF := Lib.hid hw6; obtain ⟨rfl, _⟩ := hw6)
        go_ret
        exact ⟨rfl, HF.out.2⟩
      · have htS : Hid (t = s) := Lib.hid (by rw [HT.out]; simp [hm0])
        have hm1p : 0 < m1 := by
          obtain ⟨j, hj, _⟩ := hV.ex
          rcases Int.lt_or_le 0 m1 with h | h
          · exact h
          · exfalso
            have : m1 = 0 := by omega
            rw [this, Int.zero_mul] at hj
            omega
        have HU := Lib.hid (intSetUint64_c g 0 false m1 wc hm1p (by omega) (blk_cell HB.out 0 _ rfl) (blk_cell HB.out 1 _ rfl) (blk_free HB.out 0) (blk_free HB.out 1))
        have HM1 := Lib.hid (And.intro hm1p hm1b)
        have HS1 := Lib.hid hs1b
        clear hm1b hm1p hQ hV hm0 HT
        go_upto_region 17 with (go_at_call 138; (with_reducible refine HU.out.mono ?_); intro e w1 hw1; have HR1 := Lib.hid (rs_wrote HB.out hw1); obtain ⟨rfl, _⟩ := hw1; have q0 := blk_cell HR1.out.blk 0 _ rfl; have f0 := blk_free HR1.out.blk 0)
        have HR2 := Lib.hid (HR1.out.neg t)
        clear HR1 q0 f0 hord HU
        generalize w1.setCell ⟨g, 0, none⟩ (.bool t) = w2 at HR2 ⊢
        go_region_held3 (fun _ => True) (trivial) (first | (go_at_call 139; (refine (intOne_c _).mono ?_); rintro e w3 ⟨gx, u, rfl, hgx, hp, hb⟩; have HP := Lib.hid (And.intro hgx hp); have HR3 := Lib.hid (HR2.out.drew.below hb); clear hgx hp hb) | (go_at_call 132; (refine (intSetOneAt_c gx 0 g 2 false false u 1 _ HP.out.2 (by have h1 := HP.out.1; have h2 := HR2.out.gr; have h3 : _ < w2.heap.size := HR2.out.rl; have h4 : w2.drew.heap.size = w2.heap.size := rfl; omega) HR3.out.blk rfl rfl).mono ?_); intro e w4 hw4; have HR4 := Lib.hid (rs2_wrote HR3.out hw4); obtain ⟨rfl, _⟩ := hw4))
        clear HR2 HR3 HP
        have hts := htS.out
        subst hts
        rw [HSP.out] at HV
        by_cases hs : 0 < s1
        · obtain ⟨k, rfl⟩ := Int.eq_ofNat_of_zero_le (Int.le_of_lt hs)
          have hk9 : (k : Int) ≤ 1074 := hs1b.2
          have hodd : m1 % 2 = 1 := by rcases HX.out with h | h; omega; exact h
          have HL : Hid (Calls Tryz.prog 140 #[.pointer (some ⟨g, 2, none⟩), .pointer (some ⟨g, 2, none⟩), .int .u64 k] w4.drew (Norm wc g 2 t m p)) := Lib.hid ((intLsh_c g 2 _ false 1 k w4.drew HR4.out.drew.row (by omega) (by omega) (by omega) (by omega) HR4.out.drew.rl (blk_cell HR4.out.drew.a.blk 2 _ rfl) (blk_cell HR4.out.drew.a.blk 3 _ rfl) (blk_free HR4.out.drew.a.blk 2) (blk_free HR4.out.drew.a.blk 3)).mono fun e w' h => norm_b HR4.out.drew HM1.out.1 HM1.out.2.2 (by omega) hodd HV.out h)
          clear hodd
          have hwk : IntKind.u64.wrap (k : Int) = (k : Int) := wrap_same _ (by omega) (by omega)
          go_wp2_with fail
          go_region_held3 (fun _ => True) (trivial) (first | (go_at_call 140; (with_reducible refine HL.out.mono ?_); intro e w5 hw5; have HN := Lib.hid (norm_end hw5).2; obtain ⟨rfl, _⟩ := hw5))
          go_wp2_with (go_at_call 141; (with_reducible refine HN.out.mono ?_); intro e w6 hw6; have HF := Lib.hid hw6; obtain ⟨rfl, _⟩ := hw6)
          go_ret
          exact ⟨rfl, HF.out.2⟩
        · by_cases hz : s1 = 0
          · subst hz
            have hw0 : IntKind.i64.wrap 0 = 0 := by decide
            have hw1 : IntKind.u64.wrap 0 = 0 := by decide
            have HL : Hid (Calls Tryz.prog 140 #[.pointer (some ⟨g, 0, none⟩), .pointer (some ⟨g, 0, none⟩), .int .u64 0] w4.drew (Norm wc g 0 t m p)) := Lib.hid ((intLsh0_c g 0 _ t m1 w4.drew HR4.out.drew.a.row HM1.out.1 (by have := HM1.out; omega) HR4.out.drew.a.rl (Nat.ne_of_lt HR4.out.drew.a.gr) (blk_cell HR4.out.drew.a.blk 0 _ rfl) (blk_cell HR4.out.drew.a.blk 1 _ rfl) (blk_free HR4.out.drew.a.blk 0) (blk_free HR4.out.drew.a.blk 1)).mono fun e w' ⟨he, n, hw⟩ => by subst he; subst hw; exact norm_0 HR4.out.drew HM1.out.1 HM1.out.2.2 HV.out n)
            go_wp2_with fail
            go_region_held3 (fun _ => True) (trivial) (first | (go_at_call 140; (with_reducible refine HL.out.mono ?_); intro e w5 hw5; have HN := Lib.hid (norm_end hw5).2; obtain ⟨rfl, _⟩ := hw5))
            go_wp2_with (go_at_call 141; (with_reducible refine HN.out.mono ?_); intro e w6 hw6; have HF := Lib.hid hw6; obtain ⟨rfl, _⟩ := hw6)
            go_ret
            exact ⟨rfl, HF.out.2⟩
          · obtain ⟨k, rfl⟩ : ∃ k : Nat, s1 = -(k : Int) := ⟨(-s1).toNat, by omega⟩
            have hk9 : (k : Int) ≤ 1074 := by omega
            have hk1 : 0 < k := by omega
            have HL : Hid (Calls Tryz.prog 140 #[.pointer (some ⟨g, 0, none⟩), .pointer (some ⟨g, 0, none⟩), .int .u64 k] w4.drew (Norm wc g 0 t m p)) := Lib.hid ((intLsh_c g 0 _ t m1 k w4.drew HR4.out.drew.a.row HM1.out.1 (by have := HM1.out; omega) hk1 (by omega) HR4.out.drew.a.rl (blk_cell HR4.out.drew.a.blk 0 _ rfl) (blk_cell HR4.out.drew.a.blk 1 _ rfl) (blk_free HR4.out.drew.a.blk 0) (blk_free HR4.out.drew.a.blk 1)).mono fun e w' h => norm_a HR4.out.drew HM1.out.1 (by omega) HV.out h)
            clear hz
            have hwk : IntKind.u64.wrap (k : Int) = (k : Int) := wrap_same _ (by omega) (by omega)
            have hwi : IntKind.i64.wrap (k : Int) = (k : Int) := IntWalk.i64_in _ (by omega)
            have hwn : IntKind.i64.wrap (-(-(k : Int))) = (k : Int) := by rw [Int.neg_neg]; exact hwi
            go_wp2_with fail
            go_region_held3 (fun _ => True) (trivial) (first | (go_at_call 140; (with_reducible refine HL.out.mono ?_); intro e w5 hw5; have HN := Lib.hid (norm_end hw5).2; obtain ⟨rfl, _⟩ := hw5))
            go_wp2_with (go_at_call 141; (with_reducible refine HN.out.mono ?_); intro e w6 hw6; have HF := Lib.hid hw6; obtain ⟨rfl, _⟩ := hw6)
            go_ret
            exact ⟨rfl, HF.out.2⟩
end Go.Proofs.YtkplnbjgkhmbcaaGreatDoor
