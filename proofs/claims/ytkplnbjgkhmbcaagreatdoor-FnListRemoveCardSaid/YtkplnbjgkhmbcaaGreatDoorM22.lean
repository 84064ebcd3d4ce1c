/- Rat.SetInt, SetInt64. -/
import Derived.Test.YtkplnbjgkhmbcaaGreatDoorM20
namespace Go.Proofs.YtkplnbjgkhmbcaaGreatDoor
open Go.RowKit Go.Shelf Go.Proofs.YtkplnbjgkhmbcaaGreatDoorW.PrintWords Go.Proofs.YtkplnbjgkhmbcaaGreatDoorW.PrintLast Go.Proofs.YtkplnbjgkhmbcaaGreatDoorW.PrintMore
set_option linter.unusedVariables false
set_option linter.unusedSimpArgs false

/-- An integer as a Rat. -/
def RatI (w : World) (g : Nat) (x : Int) (e : Ending) (w' : World) : Prop :=
  e = .returned (.pointer (some ⟨g, 0, none⟩)) ∧ (∃ na va xs vb, RT w' g na va xs vb [1] ∧ (xs = [] → na = false) ∧ bval na xs = x ∧ xs.length ≤ 1000) ∧ Below g w w'

/-- What z.Set(x) leaves, x not 0, z any Int that is 0 and new. -/
def WroteL (w : World) (g o : Nat) (zs : List Int) (b : Bool) (e : Ending) (w' : World) : Prop :=
  e = .returned (.pointer (some ⟨g, o, none⟩)) ∧ ∃ W c, w' = (W.setCell ⟨g, o + 1, none⟩ (.slice (some ⟨w.heap.size, 0, none⟩) zs.length c)).setCell ⟨g, o, none⟩ (.bool b) ∧ zs.length ≤ c ∧ IRow .u64 W w.heap.size zs ∧ Below w.heap.size w W ∧ w.heap.size < W.heap.size
set_option maxRecDepth 100000 in
theorem intSetAt_c (g o g2 o2 : Nat) (neg n0 : Bool) (v : Value) (zs : List Int) (w : World) (h : PI w g o neg v zs) (hz : zs ≠ []) (hlen : zs.length ≤ 4398046511104) (hne : g2 ≠ g) {cs : Array Value} {t : TypeId} (hk : w.heap[g2]? = some (.cells cs t (0, 0))) (c0 : cs[o2]? = some (.bool n0)) (c1 : cs[o2 + 1]? = some (.slice none 0 0)) :
    Calls Tryz.prog 132 #[.pointer (some ⟨g2, o2, none⟩), .pointer (some ⟨g, o, none⟩)] w (WroteL w g2 o2 zs neg) := by
  obtain ⟨cs1, ct1, hblk, _⟩ := h.blk
  have hpe : (binOp .neq 118 (.pointer (some ⟨g2, o2, none⟩)) (.pointer (some ⟨g, o, none⟩))).run Tryz.prog w = .ok (.bool true) w := by
    obtain ⟨i, hi, hs⟩ := Option.map_eq_some_iff.1 intInfo
    exact run_neq_ptr_other w Tryz.underlying118 hi (by rw [hs]; decide) (by intro e; injection e with e; exact hne e) hk hblk
  clear hblk
  have d0 := blk_cell hk o2 _ c0
  have d1 := blk_cell hk (o2 + 1) _ c1
  have g0 := blk_free hk o2
  have g1 := blk_free hk (o2 + 1)
  have hlt2 : g2 < w.heap.size := lt_of_cell d0
  clear hk c0 c1
  have c0 := h.c0
  have c1 := h.c1
  have hlt := h.lt
  have HC := Lib.hid (fun w' (hb : Below w.heap.size w w') => natSetO_c _ v zs w' (h.sl.below hb) hz hlen)
  have hnq : g ≠ g2 := Ne.symm hne
  obtain ⟨A, c, rfl, _⟩ := h.sl.c
  clear h
  have HB0 : Hid (Below w.heap.size w w) := Below.refl _ _
  go_enter Tryz.func132, Tryz.ntmps132
  go_wp2
  go_region_with (go_at_call 160; refine (HC.out _ HB0.out.drew).mono ?_; rintro e w1 ⟨cc, rfl, hcc, hr, hz, hb⟩; have hb1 := HB0.out.drew.trans hb; have HR := Lib.hid (And.intro hcc (And.intro hr (And.intro hb1 hz))); have q0 := (hb1.cell (p := ⟨g2, o2, none⟩) hlt2).trans d0; have q1 := (hb1.cell (p := ⟨g2, o2 + 1, none⟩) hlt2).trans d1; have r0 := (hb1.frozen (p := ⟨g2, o2, none⟩) hlt2).trans g0; have r1 := (hb1.frozen (p := ⟨g2, o2 + 1, none⟩) hlt2).trans g1; have p0 := (hb1.cell (p := ⟨g, o, none⟩) hlt).trans c0; have p1 := (hb1.cell (p := ⟨g, o + 1, none⟩) hlt).trans c1; clear hr hb hz hb1 hcc)
  all_goals go_wp2
  all_goals go_ret
  all_goals exact ⟨rfl, w1, cc, rfl, HR.out⟩

/-- A new Rat whose numerator is laid: what its denominator's word makes of it. -/
theorem ri_end {w0 w W : World} {g : Nat} {na : Bool} {va : Value} {xs : List Int} {x : Int} (hb0 : Below g w0 w) (hk : w.heap[g]? = some (.cells #[.bool na, va, .bool false, .slice none 0 0] 198 (0, 0))) (hs : Sl .u64 (g + 1) w va xs) (wx : Words xs) (tx : Top xs) (hz : xs = [] → na = false) (hv : bval na xs = x) (hl : xs.length ≤ 1000)
    (h1 : One w 1 (.returned (.slice (some ⟨w.heap.size, 0, none⟩) 1 1)) W) : RatI w0 g x (.returned (.pointer (some ⟨g, 0, none⟩))) (W.setCell ⟨g, 3, none⟩ (.slice (some ⟨w.heap.size, 0, none⟩) 1 1)) := by
  obtain ⟨_, hr, hb, hsz⟩ := h1
  have hg := blk_lt hk
  have hw : Words [1] ∧ Top [1] := ⟨fun z hz => by rw [List.mem_singleton] at hz; omega, fun _ => by simp⟩
  refine ⟨rfl, ⟨na, va, xs, .slice (some ⟨w.heap.size, 0, none⟩) 1 1, ⟨blk_put (blk_below hk hb) 3 _ rfl, (hs.below hb).setCell (p := ⟨g, 3, none⟩) _ (by show g < g + 1; omega), ?_, wx, tx, hw.1, hw.2⟩, hz, hv, hl⟩, (hb0.trans (hb.mono (Nat.le_of_lt hg))).setCell (Nat.le_refl _) _⟩
  have := hr.sl' (by omega : w.heap.size < W.heap.size) (c := 1) (by simp) (by simp)
  exact ((show Sl .u64 w.heap.size W (.slice (some ⟨w.heap.size, 0, none⟩) 1 1) [1] by simpa using this).mono hg).setCell (p := ⟨g, 3, none⟩) _ (by show g < g + 1; omega)

theorem wroteL_rat {w w1 : World} {g : Nat} {neg : Bool} {zs : List Int} {e : Ending} (hk : w.heap[g]? = some (.cells #[.bool false, .slice none 0 0, .bool false, .slice none 0 0] 198 (0, 0))) (hlen : zs.length ≤ 1000) (h : WroteL w g 0 zs neg e w1) :
    ∃ c, w1.heap[g]? = some (.cells #[.bool neg, .slice (some ⟨w.heap.size, 0, none⟩) zs.length c, .bool false, .slice none 0 0] 198 (0, 0)) ∧ Below g w w1 ∧ Sl .u64 (g + 1) w1 (.slice (some ⟨w.heap.size, 0, none⟩) zs.length c) zs := by
  have hg := blk_lt hk
  obtain ⟨_, W, c, rfl, hc, hr, hb, hsz⟩ := h
  refine ⟨c, blk_put (blk_put ((hb.block g hg).trans hk) 1 _ rfl) 0 _ rfl, ((hb.mono (Nat.le_of_lt hg)).setCell (p := ⟨g, 0 + 1, none⟩) (Nat.le_refl _) _).setCell (p := ⟨g, 0, none⟩) (Nat.le_refl _) _, ?_⟩
  exact (((hr.sl' hsz hc (by omega)).mono hg).setCell (p := ⟨g, 0 + 1, none⟩) _ (by show g < g + 1; omega)).setCell (p := ⟨g, 0, none⟩) _ (by show g < g + 1; omega)

set_option maxRecDepth 100000 in
theorem ratSetInt_c (g gx : Nat) (neg : Bool) (v : Value) (zs : List Int) (w : World) (h : PI w gx 0 neg v zs) (hz : zs ≠ []) (hlen : zs.length ≤ 1000) (hne : g ≠ gx) (hk : w.heap[g]? = some (.cells #[.bool false, .slice none 0 0, .bool false, .slice none 0 0] 198 (0, 0))) :
    Calls Tryz.prog 99 #[.pointer (some ⟨g, 0, none⟩), .pointer (some ⟨gx, 0, none⟩)] w (RatI w g (bval neg zs)) := by
  have HS := Lib.hid (intSetAt_c gx 0 g 0 neg false v zs w h hz (by omega) hne hk rfl rfl)
  have HW := Lib.hid (fun w1 e hw => wroteL_rat (w1 := w1) (e := e) (neg := neg) hk hlen hw)
  have HO := Lib.hid (fun W => setWordO_c 1 W (by omega))
  have HN := Lib.hid (And.intro h.words (And.intro h.top hz))
  clear h hk hne
  go_enter Tryz.func99, Tryz.ntmps99
  go_wp2_with (first
    | (go_at_call 132; (with_reducible refine HS.out.mono ?_); intro e w1 hw1; obtain ⟨c, k1, k2, k3⟩ := HW.out w1 e hw1; obtain ⟨rfl, _⟩ := hw1; have c3 := blk_cell k1 3 _ rfl; have HK := Lib.hid (And.intro k1 (And.intro k2 k3)); clear k1 k2 k3)
    | (go_at_call 133; (with_reducible refine (HO.out _).mono ?_); intro e w2 hw2; have he := hw2.1; subst he; have HE := Lib.hid (ri_end HK.out.2.1 HK.out.1 HK.out.2.2 HN.out.1 HN.out.2.1 (fun e => absurd e HN.out.2.2) rfl hlen hw2); have q3 := blk_cell (blk_below HK.out.1 hw2.2.2.1) 3 _ rfl; have f3 := blk_free (blk_below HK.out.1 hw2.2.2.1) 3; clear hw2))
  go_ret
  exact HE.out

/-- z.SetInt64(x), x not 0. -/
theorem abs_cases (x : Int) (h : x ≠ 0) (hb : -9223372036854775807 ≤ x ∧ x ≤ 9223372036854775807) : ∃ (n : Bool) (y : Int), (if n then x = -y else x = y) ∧ 0 < y ∧ y ≤ 9223372036854775807 := by
  by_cases hx : x < 0
  · exact ⟨true, -x, by simp, by omega, by omega⟩
  · exact ⟨false, x, by simp, by omega, by omega⟩
set_option maxRecDepth 100000 in
theorem intSetInt64_c (g o : Nat) (n0 n : Bool) (x y : Int) (w : World) (hx : if n then x = -y else x = y) (h0 : 0 < y) (h1 : y ≤ 9223372036854775807) (c0 : w.cell? ⟨g, o, none⟩ = some (.bool n0)) (c1 : w.cell? ⟨g, o + 1, none⟩ = some (.slice none 0 0)) (f0 : w.frozen? ⟨g, o, none⟩ = false) (f1 : w.frozen? ⟨g, o + 1, none⟩ = false) :
    Calls Tryz.prog 134 #[.pointer (some ⟨g, o, none⟩), .int .i64 x] w (Wrote w g o y n) := by
  have HS := Lib.hid (setUint64O_c y w h0 (by omega))
  have hlt := lt_of_cell c0
  cases n
  · simp at hx
    subst hx
    have hx1 : ¬ x < 0 := by omega
    go_enter Tryz.func134, Tryz.ntmps134
    go_wp2_with (go_at_call 162; (with_reducible refine HS.out.mono ?_); rintro e w1 ⟨rfl, hr, hb, hz⟩; have HR := Lib.hid (And.intro hr (And.intro hb (Nat.lt_of_lt_of_eq (Nat.lt_succ_self _) hz.symm))); have d0 := (hb.cell (p := ⟨g, o, none⟩) hlt).trans c0; have d1 := (hb.cell (p := ⟨g, o + 1, none⟩) hlt).trans c1; have e0 := (hb.frozen (p := ⟨g, o, none⟩) hlt).trans f0; have e1 := (hb.frozen (p := ⟨g, o + 1, none⟩) hlt).trans f1; clear hr hb hz)
    go_ret
    exact ⟨rfl, w1, rfl, HR.out⟩
  · simp at hx
    subst hx
    have hx1 : -y < 0 := by omega
    have hyy : -(-y) = y := by omega
    go_enter Tryz.func134, Tryz.ntmps134
    go_wp2_with (go_at_call 162; (with_reducible refine HS.out.mono ?_); rintro e w1 ⟨rfl, hr, hb, hz⟩; have HR := Lib.hid (And.intro hr (And.intro hb (Nat.lt_of_lt_of_eq (Nat.lt_succ_self _) hz.symm))); have d0 := (hb.cell (p := ⟨g, o, none⟩) hlt).trans c0; have d1 := (hb.cell (p := ⟨g, o + 1, none⟩) hlt).trans c1; have e0 := (hb.frozen (p := ⟨g, o, none⟩) hlt).trans f0; have e1 := (hb.frozen (p := ⟨g, o + 1, none⟩) hlt).trans f1; clear hr hb hz)
    go_ret
    exact ⟨rfl, w1, rfl, HR.out⟩
set_option maxRecDepth 100000 in
theorem intSetInt64Z_c (g o : Nat) (n0 : Bool) (w : World) (c0 : w.cell? ⟨g, o, none⟩ = some (.bool n0)) (c1 : w.cell? ⟨g, o + 1, none⟩ = some (.slice none 0 0)) (f0 : w.frozen? ⟨g, o, none⟩ = false) (f1 : w.frozen? ⟨g, o + 1, none⟩ = false) :
    Calls Tryz.prog 134 #[.pointer (some ⟨g, o, none⟩), .int .i64 0] w fun e w' => e = .returned (.pointer (some ⟨g, o, none⟩)) ∧ w' = (w.setCell ⟨g, o + 1, none⟩ (.slice none 0 0)).setCell ⟨g, o, none⟩ (.bool false) := by
  have HS := Lib.hid (setUint64Z_c w)
  go_enter Tryz.func134, Tryz.ntmps134
  go_wp2_with (go_at_call 162; (with_reducible refine HS.out.mono ?_); rintro e w1 ⟨rfl, rfl⟩)
  go_ret
  exact ⟨rfl, rfl⟩

theorem wrote_rat {w w1 : World} {g : Nat} {neg : Bool} {y : Int} {e : Ending} (hk : w.heap[g]? = some (.cells #[.bool false, .slice none 0 0, .bool false, .slice none 0 0] 198 (0, 0))) (h : Wrote w g 0 y neg e w1) :
    w1.heap[g]? = some (.cells #[.bool neg, .slice (some ⟨w.heap.size, 0, none⟩) 1 1, .bool false, .slice none 0 0] 198 (0, 0)) ∧ Below g w w1 ∧ Sl .u64 (g + 1) w1 (.slice (some ⟨w.heap.size, 0, none⟩) 1 1) [y] := by
  have hg := blk_lt hk
  obtain ⟨_, W, rfl, hr, hb, hsz⟩ := h
  refine ⟨blk_put (blk_put ((hb.block g hg).trans hk) 1 _ rfl) 0 _ rfl, ((hb.mono (Nat.le_of_lt hg)).setCell (p := ⟨g, 0 + 1, none⟩) (Nat.le_refl _) _).setCell (p := ⟨g, 0, none⟩) (Nat.le_refl _) _, ?_⟩
  have := hr.sl' hsz (c := 1) (by simp) (by simp)
  exact (((show Sl .u64 w.heap.size W (.slice (some ⟨w.heap.size, 0, none⟩) 1 1) [y] by simpa using this).mono hg).setCell (p := ⟨g, 0 + 1, none⟩) _ (by show g < g + 1; omega)).setCell (p := ⟨g, 0, none⟩) _ (by show g < g + 1; omega)

set_option maxRecDepth 100000 in
theorem ratSetInt64_c (g : Nat) (x : Int) (w : World) (hb : -9223372036854775807 ≤ x ∧ x ≤ 9223372036854775807) (hk : w.heap[g]? = some (.cells #[.bool false, .slice none 0 0, .bool false, .slice none 0 0] 198 (0, 0))) :
    Calls Tryz.prog 100 #[.pointer (some ⟨g, 0, none⟩), .int .i64 x] w (RatI w g x) := by
  have HO := Lib.hid (fun W => setWordO_c 1 W (by omega))
  by_cases hx : x = 0
  · subst hx
    have HS := Lib.hid (intSetInt64Z_c g 0 false w (blk_cell hk 0 _ rfl) (blk_cell hk 1 _ rfl) (blk_free hk 0) (blk_free hk 1))
    have HK : Hid ((((w.setCell ⟨g, 0 + 1, none⟩ (.slice none 0 0)).setCell ⟨g, 0, none⟩ (.bool false)).heap[g]? = some (.cells #[.bool false, .slice none 0 0, .bool false, .slice none 0 0] 198 (0, 0))) ∧ Below g w ((w.setCell ⟨g, 0 + 1, none⟩ (.slice none 0 0)).setCell ⟨g, 0, none⟩ (.bool false))) := Lib.hid ⟨blk_put (blk_put hk 1 _ rfl) 0 _ rfl, ((Below.refl g w).setCell (p := ⟨g, 0 + 1, none⟩) (Nat.le_refl _) _).setCell (p := ⟨g, 0, none⟩) (Nat.le_refl _) _⟩
    clear hk hb
    go_enter Tryz.func100, Tryz.ntmps100
    go_wp2_with (first
      | (go_at_call 134; (with_reducible refine HS.out.mono ?_); rintro e w1 ⟨rfl, hw1⟩; rw [← hw1] at HK; clear hw1; have c3 := blk_cell HK.out.1 3 _ rfl)
      | (go_at_call 133; (with_reducible refine (HO.out _).mono ?_); intro e w2 hw2; have he := hw2.1; subst he; have HE := Lib.hid (ri_end HK.out.2 HK.out.1 Sl.nil (fun _ h => by cases h) (fun h => absurd rfl h) (fun _ => rfl) rfl (by simp) hw2); have q3 := blk_cell (blk_below HK.out.1 hw2.2.2.1) 3 _ rfl; have f3 := blk_free (blk_below HK.out.1 hw2.2.2.1) 3; clear hw2))
    go_ret
    exact HE.out
  · obtain ⟨n, y, hn, hy0, hy1⟩ := abs_cases x hx hb
    have HS := Lib.hid (intSetInt64_c g 0 false n x y w hn hy0 hy1 (blk_cell hk 0 _ rfl) (blk_cell hk 1 _ rfl) (blk_free hk 0) (blk_free hk 1))
    have HW := Lib.hid (fun w1 e hw => wrote_rat (w1 := w1) (e := e) (neg := n) (y := y) hk hw)
    have HV : Hid (bval n [y] = x ∧ Words [y] ∧ Top [y]) := Lib.hid ⟨by unfold bval; cases n <;> simp at hn <;> simp [leN, hn], fun z hz => by rw [List.mem_singleton] at hz; omega, fun _ => by simp; omega⟩
    clear hk hb hx hn
    go_enter Tryz.func100, Tryz.ntmps100
    go_wp2_with (first
      | (go_at_call 134; (with_reducible refine HS.out.mono ?_); intro e w1 hw1; obtain ⟨k1, k2, k3⟩ := HW.out w1 e hw1; obtain ⟨rfl, _⟩ := hw1; have c3 := blk_cell k1 3 _ rfl; have HK := Lib.hid (And.intro k1 (And.intro k2 k3)); clear k1 k2 k3)
      | (go_at_call 133; (with_reducible refine (HO.out _).mono ?_); intro e w2 hw2; have he := hw2.1; subst he; have HE := Lib.hid (ri_end HK.out.2.1 HK.out.1 HK.out.2.2 HV.out.2.1 HV.out.2.2 (fun e => by cases e) HV.out.1 (by simp) hw2); have q3 := blk_cell (blk_below HK.out.1 hw2.2.2.1) 3 _ rfl; have f3 := blk_free (blk_below HK.out.1 hw2.2.2.1) 3; clear hw2))
    go_ret
    exact HE.out
end Go.Proofs.YtkplnbjgkhmbcaaGreatDoor
