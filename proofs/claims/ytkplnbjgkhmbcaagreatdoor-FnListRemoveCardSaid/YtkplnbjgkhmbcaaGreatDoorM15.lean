/- Words times words: mul. · Ints whose words lie in a row of the call's own: Set, Abs. -/
import Derived.Test.YtkplnbjgkhmbcaaGreatDoorM14
import Derived.Test.YtkplnbjgkhmbcaaGreatDoorM12
namespace Go.Proofs.YtkplnbjgkhmbcaaGreatDoor
open Go.RowKit Go.Shelf Go.Proofs.YtkplnbjgkhmbcaaGreatDoorW.PrintWords Go.Proofs.YtkplnbjgkhmbcaaGreatDoorW.PrintLast Go.Proofs.YtkplnbjgkhmbcaaGreatDoorW.PrintMore
set_option linter.unusedVariables false
set_option linter.unusedSimpArgs false

set_option maxRecDepth 100000 in
theorem alias_c (A : Option Addr) (n c : Nat) (w : World) : Calls Tryz.prog 164 #[.slice none 0 0, .slice A n c] w fun e w' => e = .returned (.bool false) ∧ ∃ k, w' = w.drewN k := by
  go_enter Tryz.func164, Tryz.ntmps164
  go_wp2
  go_quiet (fail)
  go_wp2
  go_ret
  exact ⟨rfl, _, rfl⟩

/-- The variable karatsubaThreshold as the program lays it. -/
def Thr (w : World) : Prop := w.cell? ⟨2, 0, none⟩ = some (.int .i64 40)
theorem Thr.below {w w' : World} (h : Thr w) (hb : Below w.heap.size w w') : Thr w' := (hb.cell (p := ⟨2, 0, none⟩) (lt_of_cell h)).trans h

set_option maxRecDepth 100000 in
set_option maxHeartbeats 4000000 in
theorem mulGe_c (B1 B2 : Nat) (v1 v2 : Value) (xs ys : List Int) (p : Option Addr) (w : World) (h1 : Sl .u64 B1 w v1 xs) (h2 : Sl .u64 B2 w v2 ys) (hx : Words xs) (hy : Words ys) (tx : Top xs) (ty : Top ys) (hge : ys.length ≤ xs.length) (h0 : 0 < ys.length) (hys : ys.length < 40) (hxs : xs.length ≤ 10000) (hk : Thr w) :
    Calls Tryz.prog 136 #[.slice none 0 0, .pointer p, v1, v2] w fun e w' => ∃ u zs, e = .returned u ∧ Sl .u64 w.heap.size w' u zs ∧ Words zs ∧ Top zs ∧ leN zs = leN xs * leN ys ∧ zs.length ≤ xs.length + ys.length ∧ Below w.heap.size w w' := by
  have hm0 : ((xs.length : Int) == 0) = false := beq_eq_false_iff_ne.2 (by omega)
  have hn0 : ((ys.length : Int) == 0) = false := beq_eq_false_iff_ne.2 (by omega)
  have hlt : ¬ xs.length < ys.length := by omega
  by_cases hone : ys.length = 1
  · obtain ⟨y, rfl, hy0, hy1⟩ : ∃ y, ys = [y] ∧ 0 < y ∧ y < 18446744073709551616 := by
      match ys, hone with
      | [y], _ =>
        have a := hy y (List.mem_cons_self)
        have b := ty (by simp)
        simp at b
        exact ⟨y, rfl, by omega, a.2⟩
    have hxne : xs ≠ [] := fun e => by subst e; simp at hge
    have HC := Lib.hid (mulAddWW_c B1 v1 xs y w h1 hxne hx (by omega) ⟨hy0, hy1⟩)
    obtain ⟨A1, c1, rfl, l1, _⟩ := h1.c
    obtain ⟨A2, c2, rfl, k1, k2, k3⟩ := h2
    obtain ⟨b, o, rfl, hB, hbl, hc⟩ := k3 (by simp)
    have x0 : w.cell? ⟨b, o, none⟩ = some (.int .u64 y) := by simpa using hc 0 (by simp)
    simp only [List.length_singleton] at hn0 hlt k1
    have hl1 : (xs.length : Int) ≤ 10000 := by omega
    have hx1 : (1 : Nat) ≤ xs.length := by omega
    clear h1 hc k3 k2 hx hy tx ty hge h0 hys hone hk
    go_enter Tryz.func136, Tryz.ntmps136
    go_wp2_with (go_at_call 163; with_reducible refine HC.out.mono ?_; rintro e w1 ⟨u, zs, rfl, g1, g2, g3, g4, g5, g6⟩; have HG := Lib.hid (And.intro g1 (And.intro g2 (And.intro g3 (And.intro g4 (And.intro g5 g6))))); clear g1 g2 g3 g4 g5 g6)
    go_ret
    obtain ⟨g1, g2, g3, g4, g5, g6⟩ := HG.out
    exact ⟨_, zs, rfl, g1, g2, g3, by rw [g4]; simp [leN], g5, g6⟩
  · have hn1 : ((ys.length : Int) == 1) = false := beq_eq_false_iff_ne.2 (by omega)
    have HA := Lib.hid (fun A n c w => alias_c A n c w)
    have hxne : xs ≠ [] := fun e => by subst e; simp only [List.length_nil] at hge; omega
    have hyne : ys ≠ [] := fun e => by subst e; simp at h0
    obtain ⟨A1, c1, rfl, l1, l2, l3⟩ := h1
    obtain ⟨b, o, rfl, hB, hbl, hcx⟩ := l3 hxne
    obtain ⟨A2, c2, rfl, k1, k2, k3⟩ := h2
    obtain ⟨b2, o2, rfl, hB2, hbl2, hcy⟩ := k3 hyne
    obtain ⟨n, hn⟩ : ∃ n, xs.length + ys.length = n := ⟨_, rfl⟩
    have hni : (xs.length : Int) + (ys.length : Int) = (n : Int) := by omega
    have HMk : Hid (∀ k, Calls Tryz.prog 161 #[.slice none 0 0, .int .i64 n] (w.drewN k) fun e w' => ∃ c, e = .returned (.slice (some ⟨w.heap.size, 0, none⟩) n c) ∧ n ≤ c ∧ c ≤ n + 4 ∧ IRow .u64 w' w.heap.size (List.replicate n 0) ∧ Below w.heap.size w w' ∧ w.heap.size < w'.heap.size) := Lib.hid fun k => (make_nil n (w.drewN k) (by omega) (by omega)).mono fun e w' ⟨c, h1, h2, h3, h4, h5, h6⟩ => ⟨c, h1, h2, h3, h4, (pw_below_drewN (Below.refl _ _) k).trans h5, by rw [h6]; exact Nat.lt_succ_self _⟩
    have HBM := Lib.hid (fun (w1 : World) (cc : Nat) (hb1 : Below w.heap.size w w1) (hr : IRow .u64 w1 w.heap.size (List.replicate n 0)) (hcc : n ≤ cc) => basicMul_c w.heap.size b o b2 o2 cc c1 c2 xs ys (List.replicate n 0) w1 (by simp [hn]) hr hx hy (by omega) (by omega) (by omega) (fun j hj => (hb1.cell (p := ⟨b, o + j, none⟩) hbl).trans (hcx j hj)) hbl (fun j hj => (hb1.cell (p := ⟨b2, o2 + j, none⟩) hbl2).trans (hcy j hj)) hbl2 (by omega))
    rw [hn] at HBM
    have HN := Lib.hid (And.intro hn (And.intro hge hys))
    have hys' : (ys.length : Int) < 40 := by omega
    have hT := hk
    unfold Thr at hT
    have HK := Lib.hid hk
    clear hcx hcy l3 k3 hx hy tx ty hn hge h0 hys hone hk
    go_enter Tryz.func136, Tryz.ntmps136
    have HT := Lib.hid (fun w1 (hb1 : Below w.heap.size w w1) => (hb1.cell (p := ⟨2, 0, none⟩) (lt_of_cell hT)).trans hT)
    clear hT
    go_wp2_with (first
      | (go_at_call 164; with_reducible refine (HA.out _ _ _ _).mono ?_; rintro e w1 ⟨rfl, k, rfl⟩)
      | (go_at_call 161; with_reducible refine (HMk.out _).mono ?_; rintro e w1 ⟨cc, rfl, hc1, hc2, hr1, hb1, hz1⟩; have HC1 := Lib.hid (And.intro hc1 hc2); have HR1 := Lib.hid hr1; have HB1 := Lib.hid hb1; have HZ1 := Lib.hid hz1; have hT1 := HT.out _ hb1; clear hr1 hb1 hz1 hc1 hc2)
      | (go_at_call 165; with_reducible refine (HBM.out _ _ HB1.out HR1.out HC1.out.1).mono ?_; rintro e w2 ⟨rfl, ⟨D, hD1, hD2⟩, hb2⟩; have HD := Lib.hid (And.intro (bm_end hD1) (And.intro hD1.words hD1.len)); have HD2 := Lib.hid hD2; have HB2 := Lib.hid (HB1.out.trans hb2); have HL2 := Lib.hid (Nat.lt_of_lt_of_le HZ1.out hb2.size); clear hD1 hD2 hb2)
      | (go_at_call 166; with_reducible refine (norm_own _ n _ D _ (HD.out.2.2.trans HN.out.1) HC1.out.1 (by have := HC1.out.2; have := HN.out; omega) HD2.out HL2.out HD.out.2.1).mono ?_; rintro e w3 ⟨rfl, i, zs, rfl, y1, y2, y3, y4, y5, y6⟩; have Y := Lib.hid (And.intro y1 (And.intro y2 (And.intro y3 (And.intro y4 (And.intro y5 y6))))); clear y1 y2 y3 y4 y5 y6))
    go_ret
    obtain ⟨y1, y2, y3, y4, y5, y6⟩ := Y.out
    exact ⟨_, zs, rfl, y1, y2, y3, y4.trans HD.out.1, by have := HN.out.1; omega, HB2.out⟩

set_option maxRecDepth 100000 in
/-- nat.mul of two numbers, the shorter one below 40 words, onto nil. -/
theorem natMul_c (B1 B2 : Nat) (v1 v2 : Value) (xs ys : List Int) (p : Option Addr) (w : World) (h1 : Sl .u64 B1 w v1 xs) (h2 : Sl .u64 B2 w v2 ys) (hx : Words xs) (hy : Words ys) (tx : Top xs) (ty : Top ys) (hxs : xs.length ≤ 10000) (hys : ys.length ≤ 10000) (hmin : xs.length < 40 ∨ ys.length < 40) (hk : Thr w) :
    Calls Tryz.prog 136 #[.slice none 0 0, .pointer p, v1, v2] w fun e w' => ∃ u zs, e = .returned u ∧ Sl .u64 w.heap.size w' u zs ∧ Words zs ∧ Top zs ∧ leN zs = leN xs * leN ys ∧ zs.length ≤ xs.length + ys.length ∧ Below w.heap.size w w' := by
  by_cases hlt : xs.length < ys.length
  · by_cases h0 : xs = []
    · subst h0
      have hy0 : 0 < ys.length := by simpa using hlt
      have hyb : ((ys.length : Int) == 0) = false := beq_eq_false_iff_ne.2 (by omega)
      obtain ⟨A1, c1, rfl, l1, _⟩ := h1.c
      obtain ⟨A2, c2, rfl, l2, _⟩ := h2.c
      have HS : Hid (Calls Tryz.prog 136 #[.slice none 0 0, .pointer p, .slice A2 ys.length c2, .slice A1 0 c1] w fun e w' => e = .returned (.slice none 0 0) ∧ w = w') := by
        refine Lib.hid ?_
        clear h1 h2 hx hy tx ty hxs hys hmin hk
        go_enter Tryz.func136, Tryz.ntmps136
        go_wp2
        go_ret
        exact ⟨rfl, rfl⟩
      clear h1 h2 hx hy tx ty hxs hys hmin hk
      go_enter Tryz.func136, Tryz.ntmps136
      go_wp2_with (go_at_call 136; with_reducible refine HS.out.mono ?_; rintro e w1 ⟨rfl, rfl⟩)
      go_ret
      exact ⟨_, [], rfl, Sl.nil, fun _ h => (by cases h), fun h => absurd rfl h, by simp [leN], by simp, Below.refl _ _⟩
    · have hx0 : 0 < xs.length := List.length_pos_iff.2 h0
      have HC := Lib.hid (mulGe_c B2 B1 v2 v1 ys xs p w h2 h1 hy hx ty tx (by omega) hx0 (by omega) hys hk)
      obtain ⟨A1, c1, rfl, l1, _⟩ := h1.c
      obtain ⟨A2, c2, rfl, l2, _⟩ := h2.c
      clear h1 h2 hx hy tx ty hxs hys hmin hk
      go_enter Tryz.func136, Tryz.ntmps136
      go_wp2_with (go_at_call 136; with_reducible refine HC.out.mono ?_; rintro e w1 ⟨u, zs, rfl, g1, g2, g3, g4, g5, g6⟩; have HG := Lib.hid (And.intro g1 (And.intro g2 (And.intro g3 (And.intro g4 (And.intro g5 g6))))); clear g1 g2 g3 g4 g5 g6)
      go_ret
      obtain ⟨g1, g2, g3, g4, g5, g6⟩ := HG.out
      exact ⟨_, zs, rfl, g1, g2, g3, by rw [g4, Int.mul_comm], by omega, g6⟩
  · by_cases h0 : ys = []
    · subst h0
      obtain ⟨A1, c1, rfl, l1, _⟩ := h1.c
      obtain ⟨A2, c2, rfl, l2, _⟩ := h2.c
      clear h1 h2 hx hy tx ty hxs hys hmin hk
      by_cases hz : xs.length = 0
      · have hxb : ((xs.length : Int) == 0) = true := by simp [hz]
        clear hz
        go_enter Tryz.func136, Tryz.ntmps136
        go_wp2
        go_ret
        exact ⟨_, [], rfl, Sl.nil, fun _ h => (by cases h), fun h => absurd rfl h, by simp [leN], by simp, Below.refl _ _⟩
      · have hxb : ((xs.length : Int) == 0) = false := beq_eq_false_iff_ne.2 (by omega)
        clear hz
        go_enter Tryz.func136, Tryz.ntmps136
        go_wp2
        go_ret
        exact ⟨_, [], rfl, Sl.nil, fun _ h => (by cases h), fun h => absurd rfl h, by simp [leN], by simp, Below.refl _ _⟩
    · exact mulGe_c B1 B2 v1 v2 xs ys p w h1 h2 hx hy tx ty (by omega) (List.length_pos_iff.2 h0) (by omega) hxs hk
end Go.Proofs.YtkplnbjgkhmbcaaGreatDoor

namespace Go.Proofs.YtkplnbjgkhmbcaaGreatDoor
open Go.RowKit Go.Shelf Go.Proofs.YtkplnbjgkhmbcaaGreatDoorW.PrintWords Go.Proofs.YtkplnbjgkhmbcaaGreatDoorW.PrintLast Go.Proofs.YtkplnbjgkhmbcaaGreatDoorW.PrintMore
set_option linter.unusedVariables false
set_option linter.unusedSimpArgs false

/-- A big.Int in block g, its words in block r, both the call's own. -/
structure OI (w : World) (g r c : Nat) (neg : Bool) (zs : List Int) : Prop where
  blk : w.heap[g]? = some (.cells #[.bool neg, .slice (some ⟨r, 0, none⟩) zs.length c] 196 (0, 0))
  row : IRow .u64 w r zs
  gr : g < r
  rl : r < w.heap.size
  cap : zs.length ≤ c
  len : zs.length ≤ 4398046511104
  words : Words zs
  top : Top zs
section
variable {w w' : World} {g r c : Nat} {neg : Bool} {zs : List Int}
theorem OI.sl (h : OI w g r c neg zs) : Sl .u64 (g + 1) w (.slice (some ⟨r, 0, none⟩) zs.length c) zs :=
  (h.row.sl' h.rl h.cap (by have := h.len; omega)).mono h.gr
theorem OI.bi (h : OI w g r c neg zs) : BI w g neg (.slice (some ⟨r, 0, none⟩) zs.length c) zs := ⟨h.blk, h.sl, h.words, h.top⟩
theorem OI.below (h : OI w g r c neg zs) (hb : Below w.heap.size w w') : OI w' g r c neg zs :=
  ⟨blk_below h.blk hb, h.row.below hb h.rl, h.gr, Nat.lt_of_lt_of_le h.rl hb.size, h.cap, h.len, h.words, h.top⟩
theorem OI.keep {B : Nat} (h : OI w g r c neg zs) (hb : Below B w w') (hr : r < B) : OI w' g r c neg zs :=
  ⟨(hb.block g (Nat.lt_trans h.gr hr)).trans h.blk, h.row.below hb hr, h.gr, Nat.lt_of_lt_of_le h.rl hb.size, h.cap, h.len, h.words, h.top⟩
theorem OI.drewN (h : OI w g r c neg zs) (n : Nat) : OI (w.drewN n) g r c neg zs := ⟨h.blk, h.row, h.gr, h.rl, h.cap, h.len, h.words, h.top⟩
theorem OI.drew (h : OI w g r c neg zs) : OI w.drew g r c neg zs := ⟨h.blk, h.row, h.gr, h.rl, h.cap, h.len, h.words, h.top⟩
theorem OI.put (h : OI w g r c neg zs) (b : Bool) : OI (w.setCell ⟨g, 0, none⟩ (.bool b)) g r c b zs :=
  ⟨blk_put h.blk 0 _ rfl, h.row.setOther _ _ (Nat.ne_of_lt h.gr), h.gr, by simpa [World.setCell] using h.rl, h.cap, h.len, h.words, h.top⟩
end

set_option maxRecDepth 100000 in
/-- nat.set of a row that is not empty, onto nil: a new row. -/
theorem natSetO_c (B : Nat) (v : Value) (zs : List Int) (w : World) (h : Sl .u64 B w v zs) (hne : zs ≠ []) (hlen : zs.length ≤ 4398046511104) :
    Calls Tryz.prog 160 #[.slice none 0 0, v] w fun e w' => ∃ c, e = .returned (.slice (some ⟨w.heap.size, 0, none⟩) zs.length c) ∧ zs.length ≤ c ∧ IRow .u64 w' w.heap.size zs ∧ w.heap.size < w'.heap.size ∧ Below w.heap.size w w' := by
  have hpos : 0 < zs.length := List.length_pos_iff.2 hne
  obtain ⟨A, c, rfl, h1, h2, h3⟩ := h
  obtain ⟨b, o, rfl, hB, hlt, hc⟩ := h3 hne
  have HC := Lib.hid hc
  clear hc h3 h2
  go_enter Tryz.func160, Tryz.ntmps160
  go_wp2_with (go_at_call 161; refine (make_nil zs.length _ hpos hlen).mono ?_; rintro e w1 ⟨c1, rfl, hc1, hc2, hr1, hb1, hsz1⟩; obtain ⟨w2, hcp, hr2, hb2, hz2⟩ := copy_fresh w1 w.heap.size b o c c1 zs _ (by simp) hr1 (fun j hj => (hb1.cell (p := ⟨b, o + j, none⟩) hlt).trans (HC.out j hj)); have HR := Lib.hid hr2; have HB := Lib.hid (hb2 _ _ (Nat.le_refl _) hb1); have HZ := Lib.hid (And.intro hsz1 hz2); clear hr1 hb1 hr2 hb2 hsz1 hz2)
  go_ret
  exact ⟨c1, rfl, hc1, HR.out, by have := HZ.out; omega, HB.out⟩

set_option maxRecDepth 100000 in
/-- z.Set(x), z new, x anywhere else, x not 0. -/
theorem intSetO_c (g o g2 : Nat) (neg n0 : Bool) (v : Value) (zs : List Int) (w : World) (h : PI w g o neg v zs) (hz : zs ≠ []) (hne : g2 ≠ g) (hlen : zs.length ≤ 4398046511104)
    (hk : w.heap[g2]? = some (.cells #[.bool n0, .slice none 0 0] 196 (0, 0))) :
    Calls Tryz.prog 132 #[.pointer (some ⟨g2, 0, none⟩), .pointer (some ⟨g, o, none⟩)] w fun e w' => e = .returned (.pointer (some ⟨g2, 0, none⟩)) ∧ (∃ c, OI w' g2 w.heap.size c neg zs) ∧ Below g2 w w' := by
  obtain ⟨cs, ct, hblk, _⟩ := h.blk
  have hpe := ptr_otherP w g o g2 hne hk hblk
  clear hblk
  have d0 := blk_cell hk 0 _ rfl
  have d1 := blk_cell hk 1 _ rfl
  have g0 := blk_free hk 0
  have g1 := blk_free hk 1
  have hlt2 : g2 < w.heap.size := lt_of_cell d0
  have HK := Lib.hid hk
  clear hk
  have c0 := h.c0
  have c1 := h.c1
  have hlt := h.lt
  have HC := Lib.hid (fun w' (hb : Below w.heap.size w w') => natSetO_c _ v zs w' (h.sl.below hb) hz hlen)
  have HW := Lib.hid (And.intro h.words h.top)
  obtain ⟨A, c, rfl, _⟩ := h.sl.c
  clear h
  have HB0 : Hid (Below w.heap.size w w ∧ w.heap.size = w.heap.size) := ⟨Below.refl _ _, rfl⟩
  go_enter Tryz.func132, Tryz.ntmps132
  go_wp2
  go_region_with (go_at_call 160; refine (HC.out _ (by first | exact HB0.out.1 | exact HB0.out.1.drew)).mono ?_; rintro e w1 ⟨cc, rfl, hcc, hs1, hl1, hb1⟩; have HS1 := Lib.hid (And.intro hcc (And.intro hs1 hl1)); have HB1 : Hid (Below w.heap.size w w1) := (by first | exact HB0.out.1.trans hb1 | exact HB0.out.1.drew.trans hb1); clear hcc hs1 hl1 hb1; have q0 := (HB1.out.cell (p := ⟨g2, 0, none⟩) hlt2).trans d0; have q1 := (HB1.out.cell (p := ⟨g2, 1, none⟩) hlt2).trans d1; have r0 := (HB1.out.frozen (p := ⟨g2, 0, none⟩) hlt2).trans g0; have r1 := (HB1.out.frozen (p := ⟨g2, 1, none⟩) hlt2).trans g1; have p0 := (HB1.out.cell (p := ⟨g, o, none⟩) hlt).trans c0; have p1 := (HB1.out.cell (p := ⟨g, o + 1, none⟩) hlt).trans c1)
  all_goals go_wp2
  all_goals go_ret
  all_goals exact ⟨rfl, ⟨_, ⟨blk_put (blk_put ((HB1.out.block g2 hlt2).trans HK.out) 1 _ rfl) 0 _ rfl, (HS1.out.2.1.setOther _ _ (Nat.ne_of_lt hlt2)).setOther _ _ (Nat.ne_of_lt hlt2), hlt2, by have := HS1.out.2.2; simpa [World.setCell] using this, HS1.out.1, hlen, HW.out.1, HW.out.2⟩⟩, ((HB1.out.mono (Nat.le_of_lt hlt2)).setCell (Nat.le_refl _) _).setCell (Nat.le_refl _) _⟩

set_option maxRecDepth 100000 in
/-- z.Abs(x), z new, x not 0. -/
theorem intAbsO_c (g o g2 : Nat) (neg n0 : Bool) (v : Value) (zs : List Int) (w : World) (h : PI w g o neg v zs) (hz : zs ≠ []) (hne : g2 ≠ g) (hlen : zs.length ≤ 4398046511104)
    (hk : w.heap[g2]? = some (.cells #[.bool n0, .slice none 0 0] 196 (0, 0))) :
    Calls Tryz.prog 197 #[.pointer (some ⟨g2, 0, none⟩), .pointer (some ⟨g, o, none⟩)] w fun e w' => e = .returned (.pointer (some ⟨g2, 0, none⟩)) ∧ (∃ c, OI w' g2 w.heap.size c false zs) ∧ Below g2 w w' := by
  have HC := Lib.hid (intSetO_c g o g2 neg n0 v zs w h hz hne hlen hk)
  clear h hk hne hlen
  go_enter Tryz.func197, Tryz.ntmps197
  go_wp2_with (go_at_call 132; refine HC.out.mono ?_; rintro e w1 ⟨rfl, ⟨u, hu⟩, hb1⟩; have c0 := hu.bi.c0; have f0 := hu.bi.f0; have HU := Lib.hid hu; have HB := Lib.hid hb1; clear hu hb1)
  go_ret
  exact ⟨rfl, ⟨_, HU.out.put false⟩, HB.out.setCell (Nat.le_refl _) _⟩
end Go.Proofs.YtkplnbjgkhmbcaaGreatDoor
