/- starlark: CompareDepth of a Float and an Int. -/
import Derived.Test.YtkplnbjgkhmbcaaGreatDoorM28
import Derived.Deep.DeepCutAuto
namespace Go.Proofs.YtkplnbjgkhmbcaaGreatDoor
open Go.RowKit Go.Shelf Go.Proofs.YtkplnbjgkhmbcaaGreatDoorW.PrintWords Go.Proofs.YtkplnbjgkhmbcaaGreatDoorW.PrintLast Go.Proofs.YtkplnbjgkhmbcaaGreatDoorW.PrintMore
set_option linter.unusedVariables false
set_option linter.unusedSimpArgs false

set_option maxRecDepth 100000 in
set_option maxHeartbeats 1000000 in
theorem cdFloatIntN_c (B : Nat) (y : Int) (p : Option Addr) (x : Int) (b : Nat) (op d : Int) (s : Bool) (m : Nat) (q : Int) (w : World) (ho : OpOk op) (hd : ¬ d < 1) (hd2 : d ≤ 1000) (hb : b < 18446744073709551616) (hf : fdat b = .number s m q) (h : SIv B w (.agg #[.int .i64 y, .pointer p]) x) (hx : x.natAbs < 256 ^ 60) (hT : Thr w)
    (HS : Hid (Calls Tryz.prog 60 #[.iface 123 (.float .f64 b), .iface 122 (.agg #[.int .i64 y, .pointer p])] w fun e w' => e = .returned (.bool false) ∧ Below w.heap.size w w')) : Calls Tryz.prog 29 #[.int .i8 op, .iface 123 (.float .f64 b), .iface 122 (.agg #[.int .i64 y, .pointer p]), .int .i64 d] w fun e w' => e = .returned (.tuple #[.bool (tw op (- icmpF x b)), .nilIface]) ∧ Below w.heap.size w w' := by
  have ha1 := as122Int
  have ha2 := as123Float
  have ha3 := as122Float
  have he : FloatKind.f64.format.order b b = some .eq := by
    have := (ord_three b b).2.2.2.1 (by rw [hf]; rfl)
    exact this
  have hc : icmpF x b = sgn (x * 2 ^ (-q).toNat - smag s m * 2 ^ q.toNat) := by unfold icmpF; rw [hf]
  rw [hc]
  have HI : Hid (∀ w, Calls Tryz.prog 62 #[.float .f64 b, .int .i64 0] w fun e w' => e = .returned (.bool false) ∧ w' = w) := Lib.hid fun w => by
    have := isInf0_c b w hb
    rw [show finfA b = false by unfold finfA finf; rw [hf]; rfl] at this
    exact this
  have HT := Lib.hid (fun w => threeway_c op (- sgn (x * 2 ^ (-q).toNat - smag s m * 2 ^ q.toNat)) w ho (by have := sgn_vals (x * 2 ^ (-q).toNat - smag s m * 2 ^ q.toNat); omega))
  have HR := Lib.hid (fun W (hb : Below w.heap.size w W) => irational_c B _ x W (h.below hb) hx)
  have HQ := Lib.hid (fun W => frational_c b W hb s m q hf)
  have HTh := Lib.hid (fun W (hb : Below w.heap.size w W) => hT.below hb)
  clear ho hb hf hc h hx hT
  go_enter Tryz.func29, Tryz.ntmps29
  go_upto_region 37 with (go_at_call 60; (with_reducible refine HS.out.mono ?_); rintro e w1 ⟨rfl, hb1⟩; have HB := Lib.hid hb1; clear hb1)
  have HK : Hid ((w1.alloc (.cells #[.int .i64 y, .pointer p] 122)).heap[w1.heap.size]? = some (.cells #[.int .i64 y, .pointer p] 122 (0, 0))) := Lib.hid (blk_new _ _)
  replace HB := Lib.hid (HB.out.alloc HB.out.size (.cells #[.int .i64 y, .pointer p] 122))
  obtain ⟨W, hW⟩ : ∃ W, W = w1.alloc (.cells #[.int .i64 y, .pointer p] 122) := ⟨_, rfl⟩
  rw [← hW] at HK HB ⊢
  clear hW
  go_upto_region 41 with (go_at_call 62; (with_reducible refine (HI.out _).mono ?_); rintro e w2 ⟨rfl, rfl⟩)
  have c1 := blk_cell HK.out 0 _ rfl
  have c2 := blk_cell HK.out 1 _ rfl
  go_region_with (first
    | (go_at_call 65; (with_reducible refine (HQ.out _).mono ?_); rintro e w3 ⟨g2, n2, vc, ns, vd, bs, hg2, rfl, k1, k2, k3, k4, k5, k6, k7, hb3⟩; have HA := Lib.hid (And.intro k1 (And.intro k2 (And.intro k3 (And.intro k4 (And.intro k5 (And.intro k6 k7)))))); replace HB := Lib.hid (HB.out.drew.trans (hb3.mono HB.out.drew.size)); replace HK := Lib.hid (blk_below HK.out ((Below.refl _ _).drew.trans hb3)); clear k1 k2 k3 k4 k5 k6 k7 hb3 hg2 c1 c2; have c1 := blk_cell HK.out 0 _ rfl; have c2 := blk_cell HK.out 1 _ rfl)
    | (go_at_call 63; (with_reducible refine (HR.out _ HB.out).mono ?_); rintro e w4 ⟨g1, n1, va, xs, vb, hg1, rfl, k1, k2, k3, k4, hb2⟩; have HJ := Lib.hid (ratJoin_c x s m q g1 g2 n1 n2 va vb vc vd xs ns bs w4 k1 k2 k3 k4 (HA.out.1.below hb2) HA.out.2.1 HA.out.2.2.1 HA.out.2.2.2.1 HA.out.2.2.2.2.1 HA.out.2.2.2.2.2.1 HA.out.2.2.2.2.2.2 (HTh.out _ (HB.out.trans (hb2.mono HB.out.size)))).2; replace HB := Lib.hid (HB.out.trans (hb2.mono HB.out.size)); clear k1 k2 k3 k4 hb2 hg1 c1 c2)
    | (go_at_call 64; (with_reducible refine HJ.out.mono ?_); rintro e w5 ⟨rfl, hb4⟩; replace HB := Lib.hid (HB.out.trans (hb4.mono HB.out.size)); clear hb4))
  all_goals go_wp2_with (go_at_call 61; (with_reducible refine (HT.out _).mono ?_); rintro e w6 ⟨rfl, rfl⟩)
  all_goals go_ret2
  all_goals exact ⟨rfl, HB.out⟩

set_option maxRecDepth 100000 in
theorem cdFloatIntI_c (y : Int) (p : Option Addr) (x : Int) (b : Nat) (op d : Int) (s : Bool) (w : World) (ho : OpOk op) (hd : ¬ d < 1) (hd2 : d ≤ 1000) (hb : b < 18446744073709551616) (hf : fdat b = .infinity s)
    (HS : Hid (Calls Tryz.prog 60 #[.iface 123 (.float .f64 b), .iface 122 (.agg #[.int .i64 y, .pointer p])] w fun e w' => e = .returned (.bool false) ∧ Below w.heap.size w w')) : Calls Tryz.prog 29 #[.int .i8 op, .iface 123 (.float .f64 b), .iface 122 (.agg #[.int .i64 y, .pointer p]), .int .i64 d] w fun e w' => e = .returned (.tuple #[.bool (tw op (- icmpF x b)), .nilIface]) ∧ Below w.heap.size w w' := by
  have ha1 := as122Int
  have ha2 := as123Float
  have ha3 := as122Float
  have hz : FloatKind.f64.format.order b 0 = some (if s then .lt else .gt) := ordzero b s hf
  have he : FloatKind.f64.format.order b b = some .eq := by
    have := (ord_three b b).2.2.2.1 (by rw [hf]; rfl)
    exact this
  have hc : - icmpF x b = if s then -1 else 1 := by unfold icmpF; rw [hf]; cases s <;> rfl
  rw [hc]
  have HI : Hid (∀ w, Calls Tryz.prog 62 #[.float .f64 b, .int .i64 0] w fun e w' => e = .returned (.bool true) ∧ w' = w) := Lib.hid fun w => by
    have := isInf0_c b w hb
    rw [show finfA b = true by unfold finfA finf; rw [hf]; cases s <;> rfl] at this
    exact this
  have HT := Lib.hid (fun c w hc => threeway_c op c w ho hc)
  clear ho hb hf hc
  cases s
  all_goals
    simp only [if_true, if_false, Bool.false_eq_true, reduceIte] at hz ⊢
    go_enter Tryz.func29, Tryz.ntmps29
    go_wp2_with (first
      | (go_at_call 60; (with_reducible refine HS.out.mono ?_); rintro e w1 ⟨rfl, hb1⟩; have HB := Lib.hid hb1; clear hb1)
      | (go_at_call 62; (with_reducible refine (HI.out _).mono ?_); rintro e w2 ⟨rfl, rfl⟩)
      | (go_at_call 61; (with_reducible refine (HT.out _ _ (by decide)).mono ?_); rintro e w2 ⟨rfl, rfl⟩))
    go_ret2
    exact ⟨rfl, HB.out.alloc HB.out.size _⟩
set_option maxRecDepth 100000 in
theorem cdFloatIntZ_c (y : Int) (p : Option Addr) (x : Int) (b : Nat) (op d : Int) (s : Bool) (f : Nat) (w : World) (ho : OpOk op) (hd : ¬ d < 1) (hd2 : d ≤ 1000) (hf : fdat b = .nan s f)
    (HS : Hid (Calls Tryz.prog 60 #[.iface 123 (.float .f64 b), .iface 122 (.agg #[.int .i64 y, .pointer p])] w fun e w' => e = .returned (.bool false) ∧ Below w.heap.size w w')) : Calls Tryz.prog 29 #[.int .i8 op, .iface 123 (.float .f64 b), .iface 122 (.agg #[.int .i64 y, .pointer p]), .int .i64 d] w fun e w' => e = .returned (.tuple #[.bool (tw op (- icmpF x b)), .nilIface]) ∧ Below w.heap.size w w' := by
  have ha1 := as122Int
  have ha2 := as123Float
  have ha3 := as122Float
  have he : FloatKind.f64.format.order b b = none := by
    have := ((ord_three b b).2.1 (by rw [hf]; rfl)).1
    exact this
  have hc : - icmpF x b = 1 := by unfold icmpF; rw [hf]; rfl
  rw [hc]
  have HT := Lib.hid (fun w => threeway_c op 1 w ho (by decide))
  clear ho hf hc
  go_enter Tryz.func29, Tryz.ntmps29
  go_wp2_with (first
    | (go_at_call 60; (with_reducible refine HS.out.mono ?_); rintro e w1 ⟨rfl, hb1⟩; have HB := Lib.hid hb1; clear hb1)
    | (go_at_call 61; (with_reducible refine (HT.out _).mono ?_); rintro e w2 ⟨rfl, rfl⟩))
  go_ret2
  exact ⟨rfl, HB.out.alloc HB.out.size _⟩

/-- CompareDepth of a Float and an Int. -/
theorem cdFloatInt_c (B : Nat) (u : Value) (x : Int) (b : Nat) (op d : Int) (w : World) (ho : OpOk op) (hd : ¬ d < 1) (hd2 : d ≤ 1000) (hb : b < 18446744073709551616) (h : SIv B w u x) (hx : x.natAbs < 256 ^ 60) (hT : Thr w) : Calls Tryz.prog 29 #[.int .i8 op, .iface 123 (.float .f64 b), .iface 122 u, .int .i64 d] w fun e w' => e = .returned (.tuple #[.bool (tw op (- icmpF x b)), .nilIface]) ∧ Below w.heap.size w w' := by
  obtain ⟨y, p, rfl⟩ := h.shape
  have HS : Hid (Calls Tryz.prog 60 #[.iface 123 (.float .f64 b), .iface 122 (.agg #[.int .i64 y, .pointer p])] w fun e w' => e = .returned (.bool false) ∧ Below w.heap.size w w') := Lib.hid (sameType_c 0 B _ _ (Sca.float b) (Sca.int x) w rfl ⟨_, rfl, h⟩)
  rcases fcase b hb with ⟨s, m, q, hf, _⟩ | ⟨s, hf, _⟩ | ⟨s, f, hf⟩
  · exact cdFloatIntN_c B y p x b op d s m q w ho hd hd2 hb hf h hx hT HS
  · exact cdFloatIntI_c y p x b op d s w ho hd hd2 hb hf HS
  · exact cdFloatIntZ_c y p x b op d s f w ho hd hd2 hf HS
end Go.Proofs.YtkplnbjgkhmbcaaGreatDoor
