/- Int.scaleDenom; Rat.Cmp. · starlark: (Int).rational, (Float).rational, (Int).bigInt. -/
import Derived.Test.YtkplnbjgkhmbcaaGreatDoorM21
import Derived.Test.YtkplnbjgkhmbcaaGreatDoorM22
import Derived.Test.YtkplnbjgkhmbcaaGreatDoorM04
namespace Go.Proofs.YtkplnbjgkhmbcaaGreatDoor
open Go.RowKit Go.Shelf Go.Proofs.YtkplnbjgkhmbcaaGreatDoorW.PrintWords Go.Proofs.YtkplnbjgkhmbcaaGreatDoorW.PrintLast Go.Proofs.YtkplnbjgkhmbcaaGreatDoorW.PrintMore
set_option linter.unusedVariables false
set_option linter.unusedSimpArgs false

/-- All blocks but one are as they were. -/
def AllBut (g : Nat) (w w' : World) : Prop := (∀ b, b < w.heap.size → b ≠ g → w'.heap[b]? = w.heap[b]?) ∧ w.heap.size ≤ w'.heap.size
theorem cell_heap {w w' : World} {b : Nat} (h : w'.heap[b]? = w.heap[b]?) (o : Nat) : w'.cell? ⟨b, o, none⟩ = w.cell? ⟨b, o, none⟩ := by simp [World.cell?, h]
theorem allBut_of {w W : World} {g o p : Nat} {u v : Value} (hb : Below w.heap.size w W) : AllBut g w ((W.setCell ⟨g, o, none⟩ u).setCell ⟨g, p, none⟩ v) :=
  ⟨fun b hlt hne => (Below.heap_setCell _ _ _ b hne).trans ((Below.heap_setCell _ _ _ b hne).trans (hb.block b hlt)), by simpa [World.setCell] using hb.size⟩
theorem Sl.but {k : IntKind} {B g : Nat} {w w' : World} {v : Value} {l : List Int} (h : Sl k B w v l) (hb : AllBut g w w') (hg : g < B) : Sl k B w' v l := by
  obtain ⟨A, c, rfl, h1, h2, h3⟩ := h
  exact ⟨A, c, rfl, h1, h2, fun hne => by obtain ⟨b, o, rfl, hB, hlt, hc⟩ := h3 hne; exact ⟨b, o, rfl, hB, Nat.lt_of_lt_of_le hlt hb.2, fun j hj => by rw [cell_heap (hb.1 b hlt (by omega))]; exact hc j hj⟩⟩
set_option maxRecDepth 100000 in
theorem scaleDenom_c (gz gx ox : Nat) (n : Bool) (v vy : Value) (xs ys : List Int) (p : Option Addr) (w : World) (hx : PI w gx ox n v xs) (hy : Sl .u64 0 w vy ys) (wy : Words ys) (ty : Top ys) (hne : ys ≠ []) (hgx : gx ≠ gz) (lx : xs.length ≤ 1000) (ly : ys.length ≤ 1000) (hmin : xs.length < 40 ∨ ys.length < 40) (hT : Thr w)
    (hk : w.heap[gz]? = some (.cells #[.bool false, .slice none 0 0] 196 (0, 0))) :
    Calls Tryz.prog 103 #[.pointer (some ⟨gz, 0, none⟩), .pointer p, .pointer (some ⟨gx, ox, none⟩), vy] w fun e w' => e = .returned (.tuple #[]) ∧ (∃ u zs, w'.heap[gz]? = some (.cells #[.bool n, u] 196 (0, 0)) ∧ Sl .u64 w.heap.size w' u zs ∧ Words zs ∧ Top zs ∧ leN zs = leN xs * leN ys ∧ zs.length ≤ 2000) ∧ AllBut gz w w' ∧ Below gz w w' := by
  have hl0 : ((ys.length : Int) == 0) = false := beq_eq_false_iff_ne.2 (by have := List.length_pos_iff.2 hne; omega)
  have d0 := blk_cell hk 0 _ rfl
  have d1 := blk_cell hk 1 _ rfl
  have z0 := blk_free hk 0
  have z1 := blk_free hk 1
  have hlt2 : gz < w.heap.size := lt_of_cell d0
  have HK := Lib.hid hk
  have c0 := hx.c0
  have c1 := hx.c1
  have hlt := hx.lt
  have HC := Lib.hid (fun w' (hb : Below w.heap.size w w') => natMul_c _ _ v vy xs ys p w' (hx.sl.below hb) (hy.below hb) hx.words wy hx.top ty (by omega) (by omega) hmin (hT.below hb))
  obtain ⟨A, c, rfl, _⟩ := hx.sl.c
  obtain ⟨A2, k2, rfl, _⟩ := hy.c
  have HB0 : Hid (Below w.heap.size w w.drew) := (Below.refl _ _).drew
  clear hk hx hy wy ty hne hT hmin
  go_enter Tryz.func103, Tryz.ntmps103
  go_wp2
  go_region_with (go_at_call 136; refine (HC.out _ HB0.out).mono ?_; rintro e w1 ⟨u, zs, rfl, g1, g2, g3, g4, g5, g6⟩; obtain ⟨A1, k1, rfl, _⟩ := g1.c; have hb1 := HB0.out.trans g6; have HG := Lib.hid (And.intro g1 (And.intro g2 (And.intro g3 (And.intro g4 (And.intro g5 hb1))))); have q0 := (hb1.cell (p := ⟨gz, 0, none⟩) hlt2).trans d0; have q1 := (hb1.cell (p := ⟨gz, 1, none⟩) hlt2).trans d1; have r0 := (hb1.frozen (p := ⟨gz, 0, none⟩) hlt2).trans z0; have r1 := (hb1.frozen (p := ⟨gz, 1, none⟩) hlt2).trans z1; have p0 := (hb1.cell (p := ⟨gx, ox, none⟩) hlt).trans c0; have p1 := (hb1.cell (p := ⟨gx, ox + 1, none⟩) hlt).trans c1; clear g1 g2 g3 g4 g5 g6 hb1)
  all_goals go_wp2
  all_goals go_end0
  all_goals exact ⟨rfl, ⟨_, zs, blk_put (blk_put ((HG.out.2.2.2.2.2.block gz hlt2).trans HK.out) 1 _ rfl) 0 _ rfl, (HG.out.1.setCell (p := ⟨gz, 1, none⟩) _ hlt2).setCell (p := ⟨gz, 0, none⟩) _ hlt2, HG.out.2.1, HG.out.2.2.1, HG.out.2.2.2.1, by have := HG.out.2.2.2.2.1; omega⟩, allBut_of HG.out.2.2.2.2.2, ((HG.out.2.2.2.2.2.mono (Nat.le_of_lt hlt2)).setCell (p := ⟨gz, 1, none⟩) (Nat.le_refl _) _).setCell (p := ⟨gz, 0, none⟩) (Nat.le_refl _) _⟩

theorem leN_nil_iff {l : List Int} (hw : Words l) (ht : Top l) (h : leN l = 0) : l = [] := by
  by_cases e : l = []
  · exact e
  · have := leN_top l hw ht e
    have := wpos (l.length - 1)
    omega
theorem bval_mul (n : Bool) (xs zs : List Int) (y : Int) (h : leN zs = leN xs * y) : bval n zs = bval n xs * y := by
  unfold bval; rw [h]; cases n <;> simp [Int.neg_mul]

set_option maxRecDepth 100000 in
set_option maxHeartbeats 4000000 in
theorem ratCmp_c (gx gy : Nat) (nx ny : Bool) (vx vb vy vd : Value) (xs bs ys ds : List Int) (w : World) (hx : RT w gx nx vx xs vb bs) (hy : RT w gy ny vy ys vd ds) (zx : xs = [] → nx = false) (zy : ys = [] → ny = false) (bne : bs ≠ []) (dne : ds ≠ []) (lx : xs.length ≤ 1000) (ly : ys.length ≤ 1000) (lb : bs.length ≤ 39) (ld : ds.length ≤ 39) (hT : Thr w) :
    Calls Tryz.prog 64 #[.pointer (some ⟨gx, 0, none⟩), .pointer (some ⟨gy, 0, none⟩)] w fun e w' => e = .returned (.int .i64 (sgn (bval nx xs * leN ds - bval ny ys * leN bs))) ∧ Below w.heap.size w w' := by
  have HX := Lib.hid (fun w' (h : Below w.heap.size w w') => hx.below h)
  have HY := Lib.hid (fun w' (h : Below w.heap.size w w') => hy.below h)
  have HT := Lib.hid (fun w' (h : Below w.heap.size w w') => hT.below h)
  have hgx : gx < w.heap.size := lt_of_cell hx.pa.c0
  have hgy : gy < w.heap.size := lt_of_cell hy.pa.c0
  have dpos : 0 < leN ds := by have := leN_bd ds hy.wb; rcases Int.lt_or_le 0 (leN ds) with h | h; exact h; exact absurd (leN_nil_iff hy.wb hy.tb (by omega)) dne
  have bpos : 0 < leN bs := by have := leN_bd bs hx.wb; rcases Int.lt_or_le 0 (leN bs) with h | h; exact h; exact absurd (leN_nil_iff hx.wb hx.tb (by omega)) bne
  have HP := Lib.hid (And.intro dpos (And.intro bpos (And.intro (And.intro hx.wa hx.ta) (And.intro hy.wa hy.ta))))
  have HWB := Lib.hid (And.intro (And.intro hx.wb hx.tb) (And.intro hy.wb hy.tb))
  obtain ⟨B1, kb, rfl, _⟩ := hx.sb.c
  obtain ⟨B2, kd, rfl, _⟩ := hy.sb.c
  clear hx hy hT dpos bpos
  go_enter_defers Tryz.func64, Tryz.ntmps64
  go_upto_region 4 with (go_at_call 101; (with_reducible refine (getStack_c _).mono ?_); rintro e w1 ⟨rfl, hs1, hb1, hl1⟩; have HS := Lib.hid (And.intro hs1 (And.intro hb1 hl1)); clear hs1 hb1 hl1)
  have HQ : Hid (w1.heap[w.heap.size]? = some (.cells #[.bool false, .slice none 0 0] 196 (0, 0)) ∧ w1.heap[w.heap.size + 1]? = some (.cells #[.bool false, .slice none 0 0] 196 (0, 0)) ∧ w1.cell? ⟨w.heap.size + 1 + 1, 0, none⟩ = some (.pointer none) ∧ Below w.heap.size w w1 ∧ w.heap.size + 1 + 1 < w1.heap.size) := by
    obtain ⟨h1, h2, h3⟩ := HS.out
    have e2 : ((w.alloc (.cells #[.bool false, .slice none 0 0] 196)).alloc (.cells #[.bool false, .slice none 0 0] 196)).heap.size = w.heap.size + 1 + 1 := by simp
    have q1 : ((w.alloc (.cells #[.bool false, .slice none 0 0] 196)).alloc (.cells #[.bool false, .slice none 0 0] 196)).heap[w.heap.size]? = some (.cells #[.bool false, .slice none 0 0] 196 (0, 0)) := blk_alloc (blk_new _ _) _
    have q2 : ((w.alloc (.cells #[.bool false, .slice none 0 0] 196)).alloc (.cells #[.bool false, .slice none 0 0] 196)).heap[w.heap.size + 1]? = some (.cells #[.bool false, .slice none 0 0] 196 (0, 0)) := by simpa using blk_new (w.alloc (.cells #[.bool false, .slice none 0 0] 196)) (.cells #[.bool false, .slice none 0 0] 196)
    have lo : Below w.heap.size w ((w.alloc (.cells #[.bool false, .slice none 0 0] 196)).alloc (.cells #[.bool false, .slice none 0 0] 196)) := ((Below.refl _ _).alloc (Nat.le_refl _) _).alloc (by simp) _
    rw [e2] at h1 h3
    exact Lib.hid ⟨blk_below q1 h2, blk_below q2 h2, h1, lo.trans (h2.mono (by rw [e2]; omega)), h3⟩
  clear HS
  have d3 : w1.cell? ⟨gy, 3, none⟩ = some (.slice B2 ds.length kd) := blk_cell (HY.out w1 HQ.out.2.2.2.1).blk 3 _ rfl
  have HS1 := Lib.hid (scaleDenom_c w.heap.size gx 0 nx vx (.slice B2 ds.length kd) xs ds (some ⟨w.heap.size + 1 + 1, 0, none⟩) w1.drew (HX.out _ HQ.out.2.2.2.1.drew).pa ((HY.out _ HQ.out.2.2.2.1.drew).sb.mono (Nat.zero_le _)) HWB.out.2.1 HWB.out.2.2 dne (by omega) lx (by omega) (Or.inr (by omega)) (HT.out _ HQ.out.2.2.2.1.drew) HQ.out.1)
  go_region_held3 (fun w' => w'.cell? ⟨gy, 3, none⟩ = some (.slice B2 ds.length kd)) (first | exact d3 | exact d3') (first | (go_at_call 103; (with_reducible refine HS1.out.mono ?_); rintro e w2 ⟨rfl, ⟨u, zs, k1, k2, k3, k4, k5, k6⟩, hab, hb2⟩; have HA := Lib.hid (And.intro k1 (And.intro k2 (And.intro k3 (And.intro k4 (And.intro k5 k6))))); have HAB := Lib.hid hab; have HL2 := Lib.hid (HQ.out.2.2.2.1.drew.trans hb2); have d3' := blk_cell (HY.out w2 HL2.out).blk 3 _ rfl; clear k1 k2 k3 k4 k5 k6 hab hb2))
  go_upto_region 5 with fail
  have e3 : w2.cell? ⟨gx, 3, none⟩ = some (.slice B1 bs.length kb) := blk_cell (HX.out w2 HL2.out).blk 3 _ rfl
  have hs3 : w.heap.size + 1 + 1 < w1.heap.size := HQ.out.2.2.2.2
  have hb2 : w2.heap[w.heap.size + 1]? = some (.cells #[.bool false, .slice none 0 0] 196 (0, 0)) := (HAB.out.1 (w.heap.size + 1) (by show _ < w1.heap.size; omega) (by omega)).trans HQ.out.2.1
  have hst : w2.cell? ⟨w.heap.size + 1 + 1, 0, none⟩ = some (.pointer none) := (cell_heap (HAB.out.1 (w.heap.size + 1 + 1) (by show _ < w1.heap.size; omega) (by omega)) 0).trans HQ.out.2.2.1
  have hsz2 : w1.heap.size ≤ w2.heap.size := HAB.out.2
  have HST := Lib.hid hst
  have HS2 := Lib.hid (scaleDenom_c (w.heap.size + 1) gy 0 ny vy (.slice B1 bs.length kb) ys bs (some ⟨w.heap.size + 1 + 1, 0, none⟩) w2.drew (HY.out _ HL2.out.drew).pa ((HX.out _ HL2.out.drew).sb.mono (Nat.zero_le _)) HWB.out.1.1 HWB.out.1.2 bne (by omega) ly (by omega) (Or.inr (by omega)) (HT.out _ HL2.out.drew) hb2)
  clear d3 hst hb2 HS1
  go_region_held3 (fun w' => w'.cell? ⟨gx, 3, none⟩ = some (.slice B1 bs.length kb)) (first | exact e3 | exact e3') (first | (go_at_call 103; (with_reducible refine HS2.out.mono ?_); rintro e w3 ⟨rfl, ⟨u2, zs2, k1, k2, k3, k4, k5, k6⟩, hab, hb2⟩; have HA2 := Lib.hid (And.intro k1 (And.intro k2 (And.intro k3 (And.intro k4 (And.intro k5 k6))))); have HAB2 := Lib.hid hab; have HL3 := Lib.hid (HL2.out.drew.trans (hb2.mono (Nat.le_succ _))); have e3' := blk_cell (HX.out w3 HL3.out).blk 3 _ rfl; clear k1 k2 k3 k4 k5 k6 hab hb2))
  have hsz3 : w2.heap.size ≤ w3.heap.size := HAB2.out.2
  have HPA : Hid (PI w3 w.heap.size 0 nx u zs) := Lib.hid ⟨⟨_, _, (HAB2.out.1 w.heap.size (by show _ < w2.heap.size; omega) (by omega)).trans HA.out.1, rfl, rfl⟩, (HA.out.2.1.but (show AllBut (w.heap.size + 1) w2 w3 from HAB2.out) (by show w.heap.size + 1 < w1.heap.size; omega)).mono (Nat.zero_le _), HA.out.2.2.1, HA.out.2.2.2.1⟩
  have HPB : Hid (PI w3 (w.heap.size + 1) 0 ny u2 zs2) := Lib.hid ⟨⟨_, _, HA2.out.1, rfl, rfl⟩, HA2.out.2.1.mono (Nat.zero_le _), HA2.out.2.2.1, HA2.out.2.2.2.1⟩
  have hst3 : w3.cell? ⟨w.heap.size + 1 + 1, 0, none⟩ = some (.pointer none) := (cell_heap (HAB2.out.1 (w.heap.size + 1 + 1) (by show _ < w2.heap.size; omega) (by omega)) 0).trans HST.out
  have HST3 := Lib.hid hst3
  have HZ1 : Hid (zs = [] → nx = false) := Lib.hid fun e => by
    have h := HA.out.2.2.2.2.1
    rw [e, leN_nil] at h
    have h2 := leN_bd xs HP.out.2.2.1.1
    have : leN xs = 0 := by
      rcases Int.mul_eq_zero.1 h.symm with h3 | h3
      · exact h3
      · have := HP.out.1; omega
    exact zx (leN_nil_iff HP.out.2.2.1.1 HP.out.2.2.1.2 this)
  have HZ2 : Hid (zs2 = [] → ny = false) := Lib.hid fun e => by
    have h := HA2.out.2.2.2.2.1
    rw [e, leN_nil] at h
    have : leN ys = 0 := by
      rcases Int.mul_eq_zero.1 h.symm with h3 | h3
      · exact h3
      · have := HP.out.2.1; omega
    exact zy (leN_nil_iff HP.out.2.2.2.1 HP.out.2.2.2.2 this)
  have HC := Lib.hid (intCmp_c w.heap.size 0 (w.heap.size + 1) 0 nx ny u u2 zs zs2 w3 HPA.out HPB.out (by omega) (by have := HA.out.2.2.2.2.2; omega) (by have := HA2.out.2.2.2.2.2; omega) HZ1.out HZ2.out)
  rw [bval_mul nx xs zs _ HA.out.2.2.2.2.1, bval_mul ny ys zs2 _ HA2.out.2.2.2.2.1] at HC
  obtain ⟨rr, hrr⟩ : ∃ rr, sgn (bval nx xs * leN ds - bval ny ys * leN bs) = rr := ⟨_, rfl⟩
  rw [hrr] at HC
  have HRR := Lib.hid hrr
  clear hrr
  clear hst3 e3 d3' e3' HS2
  go_wp2_with (go_at_call 104; (with_reducible refine HC.out.mono ?_); rintro e w4 ⟨rfl, n, rfl⟩)
  refine leaves_cons (f := 102) (args := #[.pointer (some ⟨w.heap.size + 1 + 1, 0, none⟩)]) (by simp) (by simp [go_sem]) ?_
  refine (free_deferred (w.heap.size + 1 + 1) .returning (w3.drewN n) HST3.out).mono ?_
  rintro e u' w'' ⟨rfl, rfl, rfl⟩
  exact ⟨_, results_tmp rfl _ _ _, (by rw [HRR.out]; rfl), pw_below_drewN HL3.out _⟩
end Go.Proofs.YtkplnbjgkhmbcaaGreatDoor

namespace Go.Proofs.YtkplnbjgkhmbcaaGreatDoor
open Go.RowKit Go.Shelf Go.Proofs.YtkplnbjgkhmbcaaGreatDoorW.PrintWords Go.Proofs.YtkplnbjgkhmbcaaGreatDoorW.PrintLast Go.Proofs.YtkplnbjgkhmbcaaGreatDoorW.PrintMore
set_option linter.unusedVariables false
set_option linter.unusedSimpArgs false

theorem Below.glue {w w1 w2 : World} {B g : Nat} (h : Below B w w1) (h2 : Below g w1 w2) (hg : B ≤ g) : Below B w w2 := h.trans (h2.mono hg)

/-- A number of at most 60 bytes has few words. -/
theorem few_words (n : Bool) (zs : List Int) (x : Int) (hw : Words zs) (ht : Top zs) (hv : bval n zs = x) (hx : x.natAbs < 256 ^ 60) : zs.length ≤ 8 := by
  rcases Nat.lt_or_ge 8 zs.length with hlt | hge
  · exfalso
    have hne : zs ≠ [] := by rintro rfl; simp at hlt
    have h1 := leN_top zs hw ht hne
    have h2 := (leN_bd zs hw).1
    have h4 : (18446744073709551616 : Int) ^ 8 ≤ 18446744073709551616 ^ (zs.length - 1) := by
      obtain ⟨c, hc⟩ : ∃ c, zs.length - 1 = 8 + c := ⟨zs.length - 1 - 8, by omega⟩
      rw [hc, Int.pow_add]
      have h5 := wpos c
      have : (18446744073709551616 : Int) ^ 8 * 1 ≤ 18446744073709551616 ^ 8 * 18446744073709551616 ^ c := Int.mul_le_mul_of_nonneg_left (by omega) (by decide)
      omega
    have h6 : (18446744073709551616 : Int) ^ 8 ≤ leN zs := Int.le_trans h4 h1
    have h7 : leN zs = x.natAbs := by
      rw [← hv]; unfold bval; cases n <;> simp <;> omega
    have h8 : (256 : Nat) ^ 60 ≤ 18446744073709551616 ^ 8 := by decide
    have h9 : ((18446744073709551616 ^ 8 : Nat) : Int) = (18446744073709551616 : Int) ^ 8 := by decide
    omega
  · exact hge

/-- A Rat of the whole number x, new. -/
def RatX (w : World) (x : Int) (e : Ending) (w' : World) : Prop :=
  ∃ g na va xs vb, w.heap.size ≤ g ∧ e = .returned (.pointer (some ⟨g, 0, none⟩)) ∧ RT w' g na va xs vb [1] ∧ (xs = [] → na = false) ∧ bval na xs = x ∧ xs.length ≤ 1000 ∧ Below w.heap.size w w'
theorem ratX_of {w0 w : World} {x : Int} {e : Ending} {w' : World} (hb : Below w0.heap.size w0 w) (h : RatI (w.alloc (.cells #[.bool false, .slice none 0 0, .bool false, .slice none 0 0] 198)) w.heap.size x e w') : RatX w0 x e w' := by
  obtain ⟨he, ⟨na, va, xs, vb, h1, h2, h3, h4⟩, h5⟩ := h
  exact ⟨w.heap.size, na, va, xs, vb, hb.size, he, h1, h2, h3, h4, ((hb.alloc hb.size _)).trans (h5.mono hb.size)⟩

set_option maxRecDepth 100000 in
theorem irational_c (B : Nat) (u : Value) (x : Int) (w : World) (h : SIv B w u x) (hx : x.natAbs < 256 ^ 60) :
    Calls Tryz.prog 63 #[u] w (RatX w x) := by
  have HF := Lib.hid (fun n zs hw ht hv => few_words n zs x hw ht hv hx)
  clear hx
  rcases h with ⟨hs, rfl⟩ | ⟨hs, g, neg, v, zs, rfl, hg, hb, hv, hl⟩
  · have hr : -9223372036854775807 ≤ x ∧ x ≤ 9223372036854775807 := by unfold sml at hs; simp at hs; omega
    have HR := Lib.hid (fun (w' : World) => ratSetInt64_c w'.heap.size x (w'.alloc (.cells #[.bool false, .slice none 0 0, .bool false, .slice none 0 0] 198)) hr (blk_new _ _))
    have HE := Lib.hid (fun w1 hb1 e w' hw => ratX_of (w0 := w) (w := w1) (x := x) (e := e) (w' := w') hb1 hw)
    clear hs hr HF
    go_enter Tryz.func63, Tryz.ntmps63
    go_wp2_with (first
      | (go_at_call 98; (with_reducible refine (get_c _ _ _).mono ?_); rintro e w1 ⟨rfl, hb1⟩; have HB := Lib.hid (((Below.refl _ w).alloc (Nat.le_refl _) _).trans (hb1.mono (by simp))); clear hb1)
      | (go_at_call 100; (with_reducible refine (HR.out _).mono ?_); intro e w2 hw2; replace HE := Lib.hid (HE.out _ HB.out _ _ hw2); obtain ⟨rfl, _⟩ := hw2))
    go_ret
    exact HE.out
  · have hzs := HF.out neg zs hb.words hb.top hv
    have hne : zs ≠ [] := by
      rintro rfl
      rw [show x = 0 by rw [← hv]; unfold bval; cases neg <;> rfl] at hs
      cases hs
    subst hv
    have HP : Hid (∀ w1, Below w.heap.size w w1 → PI (w1.alloc (.cells #[.bool false, .slice none 0 0, .bool false, .slice none 0 0] 198)) g 0 neg v zs ∧ w1.heap.size ≠ g) := Lib.hid fun w1 h1 => by
      have h2 := hb.below (h1.alloc h1.size (.cells #[.bool false, .slice none 0 0, .bool false, .slice none 0 0] 198))
      refine ⟨⟨⟨_, _, h2.blk, rfl, rfl⟩, h2.sl.mono (Nat.zero_le _), h2.words, h2.top⟩, ?_⟩
      have := h1.size; have := lt_blk hb.blk; omega
    have HR := Lib.hid (fun (w' : World) h1 => ratSetInt_c w'.heap.size g neg v zs (w'.alloc (.cells #[.bool false, .slice none 0 0, .bool false, .slice none 0 0] 198)) (HP.out w' h1).1 hne (by omega) (HP.out w' h1).2 (blk_new _ _))
    have HE := Lib.hid (fun w1 hb1 e w' hw => ratX_of (w0 := w) (w := w1) (x := bval neg zs) (e := e) (w' := w') hb1 hw)
    have hlt := lt_blk hb.blk
    clear hs HF hzs hne hb hl
    go_enter Tryz.func63, Tryz.ntmps63
    go_wp2_with (first
      | (go_at_call 98; (with_reducible refine (get_c _ _ _).mono ?_); rintro e w1 ⟨rfl, hb1⟩; have HB := Lib.hid (((Below.refl _ w).alloc (Nat.le_refl _) _).trans (hb1.mono (by simp))); clear hb1)
      | (go_at_call 99; (with_reducible refine (HR.out _ HB.out).mono ?_); intro e w2 hw2; replace HE := Lib.hid (HE.out _ HB.out _ _ hw2); obtain ⟨rfl, _⟩ := hw2))
    go_ret
    exact HE.out

/-- A Rat of the number s m p, new. -/
def RatY (w : World) (s : Bool) (m : Nat) (p : Int) (e : Ending) (w' : World) : Prop :=
  ∃ g na va xs vb ys, w.heap.size ≤ g ∧ e = .returned (.pointer (some ⟨g, 0, none⟩)) ∧ RT w' g na va xs vb ys ∧ (xs = [] → na = false) ∧ bval na xs * 2 ^ (-p).toNat = smag s m * 2 ^ p.toNat * leN ys ∧ 0 < leN ys ∧ xs.length ≤ 39 ∧ ys.length ≤ 39 ∧ ys ≠ [] ∧ Below w.heap.size w w'

set_option maxRecDepth 100000 in
theorem frational_c (b : Nat) (w : World) (hb : b < 18446744073709551616) (s : Bool) (m : Nat) (p : Int) (hd : fdat b = .number s m p) :
    Calls Tryz.prog 65 #[.float .f64 b] w (RatY w s m p) := by
  have HR := Lib.hid (setFloat64_c w.heap.size b (w.alloc (.cells #[.bool false, .slice none 0 0, .bool false, .slice none 0 0] 198)) hb s m p hd (blk_new _ _))
  have HE : Hid (∀ e w', RatF (w.alloc (.cells #[.bool false, .slice none 0 0, .bool false, .slice none 0 0] 198)) w.heap.size s m p e w' → RatY w s m p e w') := Lib.hid fun e w' h => by
    obtain ⟨he, ⟨na, va, xs, vb, ys, h1, h2, h3, h4, h5, h6, h7⟩, h8⟩ := h
    exact ⟨w.heap.size, na, va, xs, vb, ys, Nat.le_refl _, he, h1, h2, h3, h4, h5, h6, h7, ((Below.refl _ w).alloc (Nat.le_refl _) _).trans h8⟩
  clear hb hd
  go_enter Tryz.func65, Tryz.ntmps65
  go_wp2_with (go_at_call 105; (with_reducible refine HR.out.mono ?_); intro e w2 hw2; replace HE := Lib.hid (HE.out _ _ hw2); obtain ⟨rfl, _⟩ := hw2)
  go_ret
  exact HE.out
end Go.Proofs.YtkplnbjgkhmbcaaGreatDoor
