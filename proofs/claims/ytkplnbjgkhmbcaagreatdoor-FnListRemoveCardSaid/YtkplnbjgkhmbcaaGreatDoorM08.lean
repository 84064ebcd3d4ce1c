/- The walks of spec.number, spec.Num, spec.cmpNumbers. -/
import Derived.Test.YtkplnbjgkhmbcaaGreatDoorM07
namespace Go.Proofs.YtkplnbjgkhmbcaaGreatDoor
open Go.RowKit Go.Proofs.YtkplnbjgkhmbcaaGreatDoorW.PrintWords Go.Proofs.YtkplnbjgkhmbcaaGreatDoorW.PrintLast Go.Proofs.YtkplnbjgkhmbcaaGreatDoorW.PrintMore Go.Proofs.YtkplnbjgkhmbcaaGreatDoor.PFnCompare Go.Proofs.YtkplnbjgkhmbcaaGreatDoor.PCmp Go.Proofs.YtkplnbjgkhmbcaaGreatDoor.PbytesOf Go.Proofs.YtkplnbjgkhmbcaaGreatDoor.Pcmp
set_option linter.unusedVariables false
set_option linter.unusedSimpArgs false

set_option maxRecDepth 100000 in
theorem number_c (v : Value) (x : VT) (w : World) (h : VR w v x) :
    Calls Tryz.prog 31 #[v] w fun e w' => e = .returned (.bool (isNum x)) ∧ Below w.heap.size w w' := by
  obtain ⟨A2, c2, A5, c5, rfl, _⟩ := h.open
  have HI : Hid (isNum x = (x.f0 == 2 || x.f0 == 3)) := rfl
  rw [HI.out]
  clear h
  obtain ⟨k, hk⟩ : ∃ k, x.f0 = k := ⟨_, rfl⟩
  rw [hk]
  clear hk HI
  by_cases h2 : k = 2
  · subst h2
    go_enter Tryz.func31, Tryz.ntmps31
    go_wp2
    go_ret
    exact ⟨rfl, (Below.refl _ _).alloc (Nat.le_refl _) _⟩
  · have hb : (k == 2) = false := by simp [h2]
    rw [hb]
    clear h2
    go_enter Tryz.func31, Tryz.ntmps31
    go_wp2
    go_ret
    exact ⟨rfl, (Below.refl _ _).alloc (Nat.le_refl _) _⟩

theorem good_cut {n : Bool} {l : List Int} (g : Good n l) : cutL l = l ∧ (n && decide (0 < l.length)) = n := by
  refine ⟨cutL_same l g.lead, ?_⟩
  cases n
  · rfl
  · have : l ≠ [] := fun e => by have := g.zero e; cases this
    simp [List.length_pos_iff.2 this]

set_option maxRecDepth 100000 in
theorem num_c (v : Value) (x : VT) (w : World) (h : VR w v x) (hg : Good x.f1 x.f2) :
    Calls Tryz.prog 41 #[v] w fun e w' => ∃ A c, e = .returned (.agg #[.bool x.f1, .slice A x.f2.length c]) ∧ Sl .u8 w.heap.size w' (.slice A x.f2.length c) x.f2 ∧ Below w.heap.size w w' := by
  obtain ⟨A2, c2, A5, c5, rfl, l2, g2, l5, g5⟩ := h.open
  have hs := c_sl g2 l2
  have HO := Lib.hid (fun w' (hb : Below w.heap.size w w') => of_c x.f1 0 _ x.f2 w' (hs.below hb) (by have := hg.short; omega))
  obtain ⟨e1, e2⟩ := good_cut hg
  rw [e1, e2] at HO
  have HB0 : Hid (∀ o1 o2, Below w.heap.size w ((w.alloc o1).alloc o2)) := fun o1 o2 => ((Below.refl _ _).alloc (Nat.le_refl _) o1).alloc (by simp) o2
  clear hs e1 e2 hg h l2 g2 l5 g5
  go_enter Tryz.func41, Tryz.ntmps41
  go_wp2_with (go_at_call 24; refine (HO.out _ (HB0.out _ _)).mono ?_; rintro e w1 ⟨v1, rfl, ⟨s1, rfl, hs1⟩, hb1⟩; obtain ⟨A1, c1, rfl, _⟩ := hs1.c; have HS1 := Lib.hid hs1; have HB1 := Lib.hid hb1; have q0 := (hb1.cell (p := ⟨w.heap.size + 1, 0, none⟩) (by simp)).trans (show World.cell? _ _ = some (.bool false) from by go_simp); have q1 := (hb1.cell (p := ⟨w.heap.size + 1, 1, none⟩) (by simp)).trans (show World.cell? _ _ = some (.slice none 0 0) from by go_simp); have f0 := (hb1.frozen (p := ⟨w.heap.size + 1, 0, none⟩) (by simp)).trans (show World.frozen? _ _ = false from by go_simp); have f1 := (hb1.frozen (p := ⟨w.heap.size + 1, 1, none⟩) (by simp)).trans (show World.frozen? _ _ = false from by go_simp); clear hs1 hb1)
  refine bodyPost_ret (v := .agg #[.bool x.f1, .slice A1 x.f2.length c1]) (by simp [results, Tryz.results41, go_sem, q0, q1]) rfl ⟨_, _, rfl, ?_, ?_⟩
  · exact ((HS1.out.setCell (p := ⟨w.heap.size + 1, 0, none⟩) _ (by simp)).setCell (p := ⟨w.heap.size + 1, 1, none⟩) _ (by simp)).mono (by simp; omega)
  · exact (((HB0.out _ _).trans (HB1.out.mono (by simp; omega))).setCell (p := ⟨w.heap.size + 1, 0, none⟩) (by show w.heap.size ≤ w.heap.size + 1; omega) _).setCell (p := ⟨w.heap.size + 1, 1, none⟩) (by show w.heap.size ≤ w.heap.size + 1; omega) _

theorem wrap_icmpF (z : Int) (b : Nat) : IntKind.i64.wrap (- icmpF z b) = - icmpF z b := by
  have h : icmpF z b = -1 ∨ icmpF z b = 0 ∨ icmpF z b = 1 := by
    unfold icmpF sgn
    repeat' split
    all_goals omega
  rcases h with h | h | h <;> rw [h] <;> rfl

/-- Two boxes of Vals, while the rest grows. -/
structure BV (w0 : World) (x y : VT) (A2 A5 B2 B5 : Option Addr) (c2 c5 d2 d5 : Nat) (w : World) : Prop where
  b1 : w.heap[w0.heap.size]? = some (.cells #[.int .i64 x.f0, .bool x.f1, .slice A2 x.f2.length c2, .int .u64 x.f3, .string x.f4, .slice A5 x.f5.length c5] 26 (0, 0))
  b2 : w.heap[w0.heap.size + 1]? = some (.cells #[.int .i64 y.f0, .bool y.f1, .slice B2 y.f2.length d2, .int .u64 y.f3, .string y.f4, .slice B5 y.f5.length d5] 26 (0, 0))
  low : Below w0.heap.size w0 w
section
variable {w0 w w' : World} {x y : VT} {A2 A5 B2 B5 : Option Addr} {c2 c5 d2 d5 : Nat}
theorem BV.below (h : BV w0 x y A2 A5 B2 B5 c2 c5 d2 d5 w) (hb : Below w.heap.size w w') : BV w0 x y A2 A5 B2 B5 c2 c5 d2 d5 w' := ⟨blk_below h.b1 hb, blk_below h.b2 hb, h.low.trans (hb.mono h.low.size)⟩
theorem BV.drew (h : BV w0 x y A2 A5 B2 B5 c2 c5 d2 d5 w) : BV w0 x y A2 A5 B2 B5 c2 c5 d2 d5 w.drew := ⟨h.b1, h.b2, h.low.drew⟩
theorem cells6 {g : Nat} {a b c d e f : Value} {t : TypeId} (h : w.heap[g]? = some (.cells #[a, b, c, d, e, f] t (0, 0))) :
    w.cell? ⟨g, 0, none⟩ = some a ∧ w.cell? ⟨g, 1, none⟩ = some b ∧ w.cell? ⟨g, 2, none⟩ = some c ∧ w.cell? ⟨g, 3, none⟩ = some d ∧ w.cell? ⟨g, 4, none⟩ = some e ∧ w.cell? ⟨g, 5, none⟩ = some f :=
  ⟨(blk_cell h 0).trans rfl, (blk_cell h 1).trans rfl, (blk_cell h 2).trans rfl, (blk_cell h 3).trans rfl, (blk_cell h 4).trans rfl, (blk_cell h 5).trans rfl⟩
end
theorem bv_start (w : World) (x y : VT) (A2 A5 B2 B5 : Option Addr) (c2 c5 d2 d5 : Nat) :
    BV w x y A2 A5 B2 B5 c2 c5 d2 d5 ((w.alloc (.cells #[.int .i64 x.f0, .bool x.f1, .slice A2 x.f2.length c2, .int .u64 x.f3, .string x.f4, .slice A5 x.f5.length c5] 26)).alloc (.cells #[.int .i64 y.f0, .bool y.f1, .slice B2 y.f2.length d2, .int .u64 y.f3, .string y.f4, .slice B5 y.f5.length d5] 26)) :=
  ⟨blk_alloc (blk_new _ _) _, by simpa using blk_new (w.alloc _) _, ((Below.refl _ _).alloc (Nat.le_refl _) _).alloc (by simp) _⟩

set_option maxRecDepth 100000 in
set_option maxHeartbeats 2000000 in
theorem cmpNumbers_c (v1 v2 : Value) (x y : VT) (w : World) (h1 : VR w v1 x) (h2 : VR w v2 y) (hx : Leaf x) (hy : Leaf y) (nx : isNum x = true) (ny : isNum y = true) :
    Calls Tryz.prog 33 #[v1, v2] w fun e w' => e = .returned (.int .i64 (ncmp x y)) ∧ Below w.heap.size w w' := by
  have H1 := Lib.hid h1
  have H2 := Lib.hid h2
  obtain ⟨A2, c2, A5, c5, rfl, _⟩ := h1.open
  obtain ⟨B2, d2, B5, d5, rfl, _⟩ := h2.open
  clear h1 h2
  obtain ⟨W, hW⟩ : ∃ W, W = (w.alloc (.cells #[.int .i64 x.f0, .bool x.f1, .slice A2 x.f2.length c2, .int .u64 x.f3, .string x.f4, .slice A5 x.f5.length c5] 26)).alloc (.cells #[.int .i64 y.f0, .bool y.f1, .slice B2 y.f2.length d2, .int .u64 y.f3, .string y.f4, .slice B5 y.f5.length d5] 26) := ⟨_, rfl⟩
  have HB : Hid (BV w x y A2 A5 B2 B5 c2 c5 d2 d5 W) := by rw [hW]; exact bv_start w x y A2 A5 B2 B5 c2 c5 d2 d5
  have HX := Lib.hid hx
  have HY := Lib.hid hy
  have hbx : x.f3.toNat < 18446744073709551616 := by have := hx.bits; omega
  have hby : y.f3.toNat < 18446744073709551616 := by have := hy.bits; omega
  clear hx hy
  have HR1 : Hid (∀ W, BV w x y A2 A5 B2 B5 c2 c5 d2 d5 W → VR W (.agg #[.int .i64 x.f0, .bool x.f1, .slice A2 x.f2.length c2, .int .u64 x.f3, .string x.f4, .slice A5 x.f5.length c5]) x) := fun W h => H1.out.below h.low
  have HR2 : Hid (∀ W, BV w x y A2 A5 B2 B5 c2 c5 d2 d5 W → VR W (.agg #[.int .i64 y.f0, .bool y.f1, .slice B2 y.f2.length d2, .int .u64 y.f3, .string y.f4, .slice B5 y.f5.length d5]) y) := fun W h => H2.out.below h.low
  have HNx : Hid (x.f0 = 2 ∨ x.f0 = 3) := by refine Lib.hid ?_; unfold isNum at nx; simpa using nx
  have HNy : Hid (y.f0 = 2 ∨ y.f0 = 3) := by refine Lib.hid ?_; unfold isNum at ny; simpa using ny
  clear nx ny
  have ND : Hid (ncmp x y = if x.f0 = 2 then (if y.f0 = 2 then sgn (val x.f1 x.f2 - val y.f1 y.f2) else icmpF (val x.f1 x.f2) y.f3.toNat) else if y.f0 = 2 then - icmpF (val y.f1 y.f2) x.f3.toNat else fcmpF x.f3.toNat y.f3.toNat) := rfl
  obtain ⟨r, hr⟩ : ∃ r, ncmp x y = r := ⟨_, rfl⟩
  rw [hr] at ND ⊢
  clear hr
  have HF : Hid (∀ W, BV w x y A2 A5 B2 B5 c2 c5 d2 d5 W → Calls Tryz.prog 44 #[.agg #[.int .i64 x.f0, .bool x.f1, .slice A2 x.f2.length c2, .int .u64 x.f3, .string x.f4, .slice A5 x.f5.length c5]] W fun e W' => e = .returned (.float .f64 x.f3.toNat) ∧ Below W.heap.size W W' ∧ BV w x y A2 A5 B2 B5 c2 c5 d2 d5 W') := fun W h => (fl_c _ _ _ _ _ _ _ _ _ _ W).mono fun e W' ⟨he, hb⟩ => ⟨he, hb, h.below hb⟩
  have HF2 : Hid (∀ W, BV w x y A2 A5 B2 B5 c2 c5 d2 d5 W → Calls Tryz.prog 44 #[.agg #[.int .i64 y.f0, .bool y.f1, .slice B2 y.f2.length d2, .int .u64 y.f3, .string y.f4, .slice B5 y.f5.length d5]] W fun e W' => e = .returned (.float .f64 y.f3.toNat) ∧ Below W.heap.size W W' ∧ BV w x y A2 A5 B2 B5 c2 c5 d2 d5 W') := fun W h => (fl_c _ _ _ _ _ _ _ _ _ _ W).mono fun e W' ⟨he, hb⟩ => ⟨he, hb, h.below hb⟩
  obtain ⟨x0, x1, x2, x3, x4, x5⟩ := cells6 HB.out.b1
  obtain ⟨y0, y1, y2, y3, y4, y5⟩ := cells6 HB.out.b2
  by_cases kx : x.f0 = 2
  · by_cases ky : y.f0 = 2
    · have HE := ND.out
      rw [if_pos kx, if_pos ky] at HE
      have HRR := Lib.hid HE
      have HG := Lib.hid (And.intro (HX.out.int kx) (HY.out.int ky))
      have ex : (x.f0 == 2) = true := by rw [kx]; rfl
      have ey : (y.f0 == 2) = true := by rw [ky]; rfl
      clear HE ND kx ky
      go_enter Tryz.func33, Tryz.ntmps33
      go_upto_region 2 with fail
      rw [← hW]
      clear hW
      go_region_with (first
        | (go_at_call_of 41 (Value.agg #[.int .i64 x.f0, .bool x.f1, .slice A2 x.f2.length c2, .int .u64 x.f3, .string x.f4, .slice A5 x.f5.length c5]); refine (num_c _ x _ (by first | exact HR1.out _ HB.out | exact HR1.out _ HB.out.drew) HG.out.1).mono ?_; rintro e w1 ⟨P1, p1, rfl, hs1, hb1⟩; have HS1 := Lib.hid (hs1.mono (Nat.zero_le _)); (replace HB : Hid (BV w x y A2 A5 B2 B5 c2 c5 d2 d5 w1) := by first | exact HB.out.below hb1 | exact HB.out.drew.below hb1); clear hs1 hb1 x0 x1 x2 x3 x4 x5 y0 y1 y2 y3 y4 y5; obtain ⟨x0, x1, x2, x3, x4, x5⟩ := cells6 HB.out.b1; obtain ⟨y0, y1, y2, y3, y4, y5⟩ := cells6 HB.out.b2)
        | (go_at_call 41; refine (num_c _ y _ (by first | exact HR2.out _ HB.out | exact HR2.out _ HB.out.drew) HG.out.2).mono ?_; rintro e w2 ⟨P2, p2, rfl, hs2, hb2⟩; have HS2 := Lib.hid hs2; (replace HS1 := Lib.hid (by first | exact HS1.out.below hb2 | exact HS1.out.drew.below hb2 : Sl .u8 0 w2 (.slice P1 x.f2.length p1) x.f2)); (replace HB : Hid (BV w x y A2 A5 B2 B5 c2 c5 d2 d5 w2) := by first | exact HB.out.below hb2 | exact HB.out.drew.below hb2); clear hs2 hb2 x0 x1 x2 x3 x4 x5 y0 y1 y2 y3 y4 y5; obtain ⟨x0, x1, x2, x3, x4, x5⟩ := cells6 HB.out.b1; obtain ⟨y0, y1, y2, y3, y4, y5⟩ := cells6 HB.out.b2)
        | (go_at_call 42; refine (cmp_c _ _ _ _ _ _ _ _ _ ⟨_, rfl, by first | exact HS1.out | exact HS1.out.drew⟩ ⟨_, rfl, by first | exact HS2.out | exact HS2.out.drew⟩ HG.out.1 HG.out.2).mono ?_; rintro e w3 ⟨rfl, hb3⟩; rw [← HRR.out]; (replace HB : Hid (BV w x y A2 A5 B2 B5 c2 c5 d2 d5 w3) := by first | exact HB.out.below hb3 | exact HB.out.drew.below hb3); clear hb3))
      all_goals go_wp2
      all_goals go_ret
      all_goals exact ⟨rfl, HB.out.low⟩
    · skip
      have HE := ND.out
      rw [if_pos kx, if_neg ky] at HE
      have HRR := Lib.hid HE
      have HG := Lib.hid (HX.out.int kx)
      have HBX := Lib.hid (And.intro hbx hby)
      have ex : (x.f0 == 2) = true := by rw [kx]; rfl
      have ey : (y.f0 == 2) = false := by simp [ky]
      clear HE ND kx ky hbx hby
      go_enter Tryz.func33, Tryz.ntmps33
      go_upto_region 4 with fail
      rw [← hW]
      clear hW
      go_region_with (first
        | (go_at_call 41; refine (num_c _ x _ (by first | exact HR1.out _ HB.out | exact HR1.out _ HB.out.drew) HG.out).mono ?_; rintro e w1 ⟨P1, p1, rfl, hs1, hb1⟩; have HS1 := Lib.hid (hs1.mono (Nat.zero_le _)); (replace HB : Hid (BV w x y A2 A5 B2 B5 c2 c5 d2 d5 w1) := by first | exact HB.out.below hb1 | exact HB.out.drew.below hb1); clear hs1 hb1 x0 x1 x2 x3 x4 x5 y0 y1 y2 y3 y4 y5; obtain ⟨x0, x1, x2, x3, x4, x5⟩ := cells6 HB.out.b1; obtain ⟨y0, y1, y2, y3, y4, y5⟩ := cells6 HB.out.b2) | (go_at_call 44; refine (HF2.out _ (by first | exact HB.out | exact HB.out.drew)).mono ?_; rintro e w2 ⟨rfl, hb2⟩; (replace HS1 := Lib.hid (by first | exact HS1.out.below hb2.1 | exact HS1.out.drew.below hb2.1 : Sl .u8 0 w2 (.slice P1 x.f2.length p1) x.f2)); (replace hb2 := hb2.2); (replace HB := Lib.hid hb2); clear hb2 x0 x1 x2 x3 x4 x5 y0 y1 y2 y3 y4 y5; obtain ⟨x0, x1, x2, x3, x4, x5⟩ := cells6 HB.out.b1; obtain ⟨y0, y1, y2, y3, y4, y5⟩ := cells6 HB.out.b2) | (go_at_call 67; refine (cmpFloat_c _ _ _ _ _ _ ⟨_, rfl, by first | exact HS1.out | exact HS1.out.drew⟩ HG.out HBX.out.2).mono ?_; rintro e w3 ⟨rfl, hb3⟩; (try rw [← HRR.out]); (replace HB : Hid (BV w x y A2 A5 B2 B5 c2 c5 d2 d5 w3) := by first | exact HB.out.below hb3 | exact HB.out.drew.below hb3); clear hb3))
      all_goals go_wp2
      all_goals go_ret
      all_goals exact ⟨rfl, HB.out.low⟩
  · by_cases ky : y.f0 = 2
    · skip
      have HE := ND.out
      rw [if_neg kx, if_pos ky] at HE
      have HRR := Lib.hid HE
      have HWr : Hid (IntKind.i64.wrap (- icmpF (val y.f1 y.f2) x.f3.toNat) = r) := by rw [HE]; exact wrap_icmpF _ _
      have HG := Lib.hid (HY.out.int ky)
      have HBX := Lib.hid (And.intro hbx hby)
      have ex : (x.f0 == 2) = false := by simp [kx]
      have ey : (y.f0 == 2) = true := by rw [ky]; rfl
      clear HE ND kx ky hbx hby
      go_enter Tryz.func33, Tryz.ntmps33
      go_upto_region 6 with fail
      rw [← hW]
      clear hW
      go_region_with (first
        | (go_at_call 41; refine (num_c _ y _ (by first | exact HR2.out _ HB.out | exact HR2.out _ HB.out.drew) HG.out).mono ?_; rintro e w1 ⟨P1, p1, rfl, hs1, hb1⟩; have HS1 := Lib.hid (hs1.mono (Nat.zero_le _)); (replace HB : Hid (BV w x y A2 A5 B2 B5 c2 c5 d2 d5 w1) := by first | exact HB.out.below hb1 | exact HB.out.drew.below hb1); clear hs1 hb1 x0 x1 x2 x3 x4 x5 y0 y1 y2 y3 y4 y5; obtain ⟨x0, x1, x2, x3, x4, x5⟩ := cells6 HB.out.b1; obtain ⟨y0, y1, y2, y3, y4, y5⟩ := cells6 HB.out.b2) | (go_at_call 44; refine (HF.out _ (by first | exact HB.out | exact HB.out.drew)).mono ?_; rintro e w2 ⟨rfl, hb2⟩; (replace HS1 := Lib.hid (by first | exact HS1.out.below hb2.1 | exact HS1.out.drew.below hb2.1 : Sl .u8 0 w2 (.slice P1 y.f2.length p1) y.f2)); (replace hb2 := hb2.2); (replace HB := Lib.hid hb2); clear hb2 x0 x1 x2 x3 x4 x5 y0 y1 y2 y3 y4 y5; obtain ⟨x0, x1, x2, x3, x4, x5⟩ := cells6 HB.out.b1; obtain ⟨y0, y1, y2, y3, y4, y5⟩ := cells6 HB.out.b2) | (go_at_call 67; refine (cmpFloat_c _ _ _ _ _ _ ⟨_, rfl, by first | exact HS1.out | exact HS1.out.drew⟩ HG.out HBX.out.1).mono ?_; rintro e w3 ⟨rfl, hb3⟩; (try rw [← HRR.out]); (replace HB : Hid (BV w x y A2 A5 B2 B5 c2 c5 d2 d5 w3) := by first | exact HB.out.below hb3 | exact HB.out.drew.below hb3); clear hb3))
      all_goals go_wp2
      all_goals go_ret
      all_goals exact ⟨congrArg (fun z => Ending.returned (.int .i64 z)) HWr.out, HB.out.low⟩
    · skip
      have HE := ND.out
      rw [if_neg kx, if_neg ky] at HE
      have HRR := Lib.hid HE
      have HG := Lib.hid trivial
      have HBX := Lib.hid (And.intro hbx hby)
      have ex : (x.f0 == 2) = false := by simp [kx]
      have ey : (y.f0 == 2) = false := by simp [ky]
      clear HE ND kx ky hbx hby
      go_enter Tryz.func33, Tryz.ntmps33
      go_upto_region 7 with fail
      rw [← hW]
      clear hW
      go_region_with (first
        | (go_at_call_of 44 (Value.agg #[.int .i64 x.f0, .bool x.f1, .slice A2 x.f2.length c2, .int .u64 x.f3, .string x.f4, .slice A5 x.f5.length c5]); refine (HF.out _ (by first | exact HB.out | exact HB.out.drew)).mono ?_; rintro e w2 ⟨rfl, hb2⟩; (replace HB := Lib.hid hb2.2); clear hb2 x0 x1 x2 x3 x4 x5 y0 y1 y2 y3 y4 y5; obtain ⟨x0, x1, x2, x3, x4, x5⟩ := cells6 HB.out.b1; obtain ⟨y0, y1, y2, y3, y4, y5⟩ := cells6 HB.out.b2) | (go_at_call 44; refine (HF2.out _ (by first | exact HB.out | exact HB.out.drew)).mono ?_; rintro e w2 ⟨rfl, hb2⟩; (replace hb2 := hb2.2); (replace HB := Lib.hid hb2); clear hb2 x0 x1 x2 x3 x4 x5 y0 y1 y2 y3 y4 y5; obtain ⟨x0, x1, x2, x3, x4, x5⟩ := cells6 HB.out.b1; obtain ⟨y0, y1, y2, y3, y4, y5⟩ := cells6 HB.out.b2) | (go_at_call 68; refine (cmpFloats_c _ _ _).mono ?_; rintro e w3 ⟨rfl, rfl⟩; rw [← HRR.out]))
      all_goals go_wp2
      all_goals go_ret
      all_goals exact ⟨rfl, HB.out.low⟩
end Go.Proofs.YtkplnbjgkhmbcaaGreatDoor
