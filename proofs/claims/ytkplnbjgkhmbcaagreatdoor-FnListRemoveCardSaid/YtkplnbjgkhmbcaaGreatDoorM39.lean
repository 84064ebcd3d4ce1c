/- spec.ListMethod "remove". · laws.listOf. · laws: zzFits7, listDoes of "remove". -/
import Derived.Test.YtkplnbjgkhmbcaaGreatDoorM38
import Derived.Test.YtkplnbjgkhmbcaaGreatDoorM36
import Derived.Test.YtkplnbjgkhmbcaaGreatDoorM35
import Derived.OwnWalk
import Derived.LoopTactic
namespace Go.Proofs.YtkplnbjgkhmbcaaGreatDoor
open Go.RowKit Go.Shelf Go.Proofs.YtkplnbjgkhmbcaaGreatDoorW.PrintWords Go.Proofs.YtkplnbjgkhmbcaaGreatDoorW.PrintLast Go.Proofs.YtkplnbjgkhmbcaaGreatDoorW.PrintMore Go.Proofs.YtkplnbjgkhmbcaaGreatDoor.PFnCompare Go.Proofs.YtkplnbjgkhmbcaaGreatDoor.PCmp Go.Proofs.YtkplnbjgkhmbcaaGreatDoor.PbytesOf Go.Proofs.YtkplnbjgkhmbcaaGreatDoor.Pcmp
set_option linter.unusedVariables false
set_option linter.unusedSimpArgs false

theorem arity1_c (A : Option Addr) (c : Nat) (w : World) : Calls Tryz.prog 84 #[.slice A 1 c, .int .i64 1, .int .i64 1] w fun e w' => e = .returned (.bool true) ∧ w' = w := by
  go_enter Tryz.func84, Tryz.ntmps84
  go_wp2
  go_ret
  exact ⟨rfl, rfl⟩
def remS : ByteArray := ⟨#[114, 101, 109, 111, 118, 101]⟩
/-- Three boxes, while the rest grows. -/
structure LB (w0 : World) (cs : Array Value) (w : World) : Prop where
  b0 : w.heap[w0.heap.size]? = some (.cells cs 26 (0, 0))
  b1 : w.heap[w0.heap.size + 1]? = some (.cells #[.int .i64 0, .bool false, .slice none 0 0, .int .u64 0, .string ⟨#[]⟩, .slice none 0 0] 26 (0, 0))
  b2 : w.heap[w0.heap.size + 2]? = some (.cells #[.int .i64 0, .bool false, .slice none 0 0, .int .u64 0, .string ⟨#[]⟩, .slice none 0 0] 26 (0, 0))
  low : Below w0.heap.size w0 w
theorem LB.below {w0 w w' : World} {cs : Array Value} (h : LB w0 cs w) (hb : Below w.heap.size w w') : LB w0 cs w' := ⟨blk_below h.b0 hb, blk_below h.b1 hb, blk_below h.b2 hb, h.low.trans (hb.mono h.low.size)⟩
theorem lb_start (w : World) (cs : Array Value) : LB w cs (((w.alloc (.cells cs 26)).alloc (.cells #[.int .i64 0, .bool false, .slice none 0 0, .int .u64 0, .string ⟨#[]⟩, .slice none 0 0] 26)).alloc (.cells #[.int .i64 0, .bool false, .slice none 0 0, .int .u64 0, .string ⟨#[]⟩, .slice none 0 0] 26)) :=
  ⟨blk_alloc (blk_alloc (blk_new _ _) _) _, blk_alloc (by simpa using blk_new (w.alloc (.cells cs 26)) (.cells #[.int .i64 0, .bool false, .slice none 0 0, .int .u64 0, .string ⟨#[]⟩, .slice none 0 0] 26)) _, by simpa using blk_new ((w.alloc (.cells cs 26)).alloc (.cells #[.int .i64 0, .bool false, .slice none 0 0, .int .u64 0, .string ⟨#[]⟩, .slice none 0 0] 26)) (.cells #[.int .i64 0, .bool false, .slice none 0 0, .int .u64 0, .string ⟨#[]⟩, .slice none 0 0] 26), (((Below.refl _ _).alloc (Nat.le_refl _) _).alloc (by simp) _).alloc (by simp; omega) _⟩
/-- What spec.ListMethod answers to "remove". -/
def MethR (w : World) (ss : List Sca) (t : Sca) (A : Option Addr) (c : Nat) (xs : List VT) (e : Ending) (w' : World) : Prop :=
  Below w.heap.size w w' ∧ (((∀ j, j < ss.length → qOf ss t j = false) ∧ e = .returned (.tuple #[.agg #[.int .i64 0, .bool false, .slice none 0 0, .int .u64 0, .string ⟨#[]⟩, .slice none 0 0], .agg #[.int .i64 6, .bool false, .slice none 0 0, .int .u64 0, .string ⟨#[]⟩, .slice A xs.length c], .bool false])) ∨
    ∃ j A' c', FirstAt ss t j ∧ e = .returned (.tuple #[.agg #[.int .i64 0, .bool false, .slice none 0 0, .int .u64 0, .string ⟨#[]⟩, .slice none 0 0], .agg #[.int .i64 6, .bool false, .slice none 0 0, .int .u64 0, .string ⟨#[]⟩, .slice A' (xs.eraseIdx j).length c'], .bool true]) ∧ kV.C w' A' (xs.eraseIdx j).length (xs.eraseIdx j))

theorem own_C {u W : World} {B n c : Nat} {A : Option Addr} {ps : List VT} (h : OwnRow (kV.K u) 26 6 W B (.slice A n c) ps) (hb : Below u.heap.size u W) : kV.C W A ps.length ps := by
  obtain ⟨A', c', e, hl, hr⟩ := OwnRow.reads h
  simp only [Value.slice.injEq] at e
  obtain ⟨rfl, _⟩ := e
  exact ReadsRow.imp_ hr (Below.refl _ _) (fun _ _ h => kV.K_below hb h)
theorem below_set6 {B : Nat} {w W : World} (h : Below B w W) (g : Nat) (hg : B ≤ g) (a b c d e f : Value) : Below B w ((((((W.setCell ⟨g, 0, none⟩ a).setCell ⟨g, 1, none⟩ b).setCell ⟨g, 2, none⟩ c).setCell ⟨g, 3, none⟩ d).setCell ⟨g, 4, none⟩ e).setCell ⟨g, 5, none⟩ f) :=
  ((((((h.setCell (p := ⟨g, 0, none⟩) hg a).setCell (p := ⟨g, 1, none⟩) hg b).setCell (p := ⟨g, 2, none⟩) hg c).setCell (p := ⟨g, 3, none⟩) hg d).setCell (p := ⟨g, 4, none⟩) hg e).setCell (p := ⟨g, 5, none⟩) hg f)
theorem own_set6 {u W : World} {B : Nat} {v : Value} {ps : List VT} (h : OwnRow (kV.K u) 26 6 W B v ps) (g : Nat) (hg : g < B) (a b c d e f : Value) : OwnRow (kV.K u) 26 6 ((((((W.setCell ⟨g, 0, none⟩ a).setCell ⟨g, 1, none⟩ b).setCell ⟨g, 2, none⟩ c).setCell ⟨g, 3, none⟩ d).setCell ⟨g, 4, none⟩ e).setCell ⟨g, 5, none⟩ f) B v ps :=
  ownRow_far (p := ⟨g, 5, none⟩) (ownRow_far (p := ⟨g, 4, none⟩) (ownRow_far (p := ⟨g, 3, none⟩) (ownRow_far (p := ⟨g, 2, none⟩) (ownRow_far (p := ⟨g, 1, none⟩) (ownRow_far (p := ⟨g, 0, none⟩) h hg a) hg b) hg c) hg d) hg e) hg f
theorem own_cl {u W : World} {B n c : Nat} {A : Option Addr} {ps : List VT} (h : OwnRow (kV.K u) 26 6 W B (.slice A n c) ps) : ps.length ≤ c := by
  obtain ⟨A', c', e, hl, hr⟩ := OwnRow.reads h
  simp only [Value.slice.injEq] at e
  obtain ⟨rfl, _, rfl⟩ := e
  exact hl
theorem own_kV {u W : World} {B n c : Nat} {A : Option Addr} {ps : List VT} (h : OwnRow (kV.K u) 26 6 W B (.slice A n c) ps) : ReadsRow (kV.K u) 6 W A ps.length ps := by
  obtain ⟨A', c', e, _, hr⟩ := OwnRow.reads h
  simp only [Value.slice.injEq] at e
  obtain ⟨rfl, _⟩ := e
  exact hr
set_option maxRecDepth 100000 in
set_option maxHeartbeats 1000000 in
theorem specRem_c (A : Option Addr) (c : Nat) (xs : List VT) (ss : List Sca) (y : VT) (t : Sca) (b : Nat) (A2 A5 : Option Addr) (c2 c5 : Nat) (w : World) (h : kV.C w A xs.length xs) (hb : w.heap[b]? = some (.cells #[.int .i64 y.f0, .bool y.f1, .slice A2 y.f2.length c2, .int .u64 y.f3, .string y.f4, .slice A5 y.f5.length c5] 26 (0, 0))) (hy : VR w (.agg #[.int .i64 y.f0, .bool y.f1, .slice A2 y.f2.length c2, .int .u64 y.f3, .string y.f4, .slice A5 y.f5.length c5]) y) (hx : CanonL ss xs) (ht : Canon t y) (hn : xs.length ≤ 12) :
    Calls Tryz.prog 50 #[.agg #[.int .i64 6, .bool false, .slice none 0 0, .int .u64 0, .string ⟨#[]⟩, .slice A xs.length c], .string ⟨#[114, 101, 109, 111, 118, 101]⟩, .slice (some ⟨b, 0, none⟩) 1 1] w (MethR w ss t A c xs) := by
  obtain ⟨W0, hW0⟩ : ∃ W, W = ((w.alloc (.cells #[.int .i64 6, .bool false, .slice none 0 0, .int .u64 0, .string ⟨#[]⟩, .slice A xs.length c] 26)).alloc (.cells #[.int .i64 0, .bool false, .slice none 0 0, .int .u64 0, .string ⟨#[]⟩, .slice none 0 0] 26)).alloc (.cells #[.int .i64 0, .bool false, .slice none 0 0, .int .u64 0, .string ⟨#[]⟩, .slice none 0 0] 26) := ⟨_, rfl⟩
  have HL0 : Hid (LB w #[.int .i64 6, .bool false, .slice none 0 0, .int .u64 0, .string ⟨#[]⟩, .slice A xs.length c] W0) := by rw [hW0]; exact Lib.hid (lb_start w _)
  have HSZ : W0.heap.size = w.heap.size + 1 + 1 + 1 := by rw [hW0]; simp
  have HA : Hid (∃ v1 w1, (Builtin.append_ #[24, 24] 24 #[.slice (some ⟨w.heap.size + 1 + 1 + 1, 0, none⟩) 0 0, .slice A xs.length c]).run Tryz.prog ((((w.alloc (.cells #[.int .i64 6, .bool false, .slice none 0 0, .int .u64 0, .string ⟨#[]⟩, .slice A xs.length c] 26)).alloc (.cells #[.int .i64 0, .bool false, .slice none 0 0, .int .u64 0, .string ⟨#[]⟩, .slice none 0 0] 26)).alloc (.cells #[.int .i64 0, .bool false, .slice none 0 0, .int .u64 0, .string ⟨#[]⟩, .slice none 0 0] 26)).alloc (.cells #[] 26)) = .ok v1 w1 ∧ ((∃ Al cl, v1 = .slice Al xs.length cl) ∧ OwnRow (kV.K w) 26 6 w1 (w.heap.size + 1 + 1 + 1) v1 xs ∧ LB w #[.int .i64 6, .bool false, .slice none 0 0, .int .u64 0, .string ⟨#[]⟩, .slice A xs.length c] w1)) := Lib.hid (by
    have := app_rows w W0 (W0.alloc (.cells #[] 26)) _ [] xs A xs.length c (ownRow_nil w _ _ _ (Nat.le_refl _) (blk_new W0 _)) (ReadsRow.imp_ h HL0.out.low (fun _ _ h => h)) ((Below.refl _ W0).alloc (Nat.le_refl _) _) (by simp; omega)
    rw [List.nil_append, HSZ] at this
    obtain ⟨v1, w1, hr, ho, hb⟩ := this
    rw [hW0] at hr
    obtain ⟨Al, cl, e, _⟩ := OwnRow.reads ho
    exact ⟨v1, w1, hr, ⟨Al, cl, e⟩, ho, HL0.out.below (by rw [HSZ]; exact hb)⟩)
  have HBK := Lib.hid hb
  have HF : Hid (∀ W Al cl, Below w.heap.size w W → kV.C W Al xs.length xs → Calls Tryz.prog 53 #[.slice Al xs.length cl, .int .i64 1, .agg #[.int .i64 y.f0, .bool y.f1, .slice A2 y.f2.length c2, .int .u64 y.f3, .string y.f4, .slice A5 y.f5.length c5]] W (FindR W ss t)) := Lib.hid fun W Al cl hW hC => specFind_c Al cl xs ss y t _ W hC (hy.below hW) hx ht (by omega)
  have HN := Lib.hid hx.1
  have HK := Lib.hid (fun W (hB : Below w.heap.size w W) => cells6 (blk_below hb hB))
  clear h hb hy hx ht HSZ hW0
  by_cases hall : ∀ j, j < ss.length → qOf ss t j = false
  · have HA2 := Lib.hid hall
    have HF2 : Hid (∀ W Al cl, Below w.heap.size w W → kV.C W Al xs.length xs → Calls Tryz.prog 53 #[.slice Al xs.length cl, .int .i64 1, .agg #[.int .i64 y.f0, .bool y.f1, .slice A2 y.f2.length c2, .int .u64 y.f3, .string y.f4, .slice A5 y.f5.length c5]] W fun e W' => e = .returned (.int .i64 (-1)) ∧ Below W.heap.size W W') := Lib.hid fun W Al cl hW hC => (HF.out W Al cl hW hC).mono fun e W' ⟨hb, hr⟩ => by
      rcases hr with ⟨_, he⟩ | ⟨j, hj, _⟩
      · exact ⟨he, hb⟩
      · have h2 := hj.2.1; rw [hall j hj.1] at h2; cases h2
    clear hall HF
    go_enter Tryz.func50, Tryz.ntmps50
    go_wp2_with (first
      | (at_builtin; refine wpList_append_ex rfl _ _ _ rfl _ _ rfl rfl HA.out ?_; rintro v1 w1 ⟨⟨Al, cl, rfl⟩, ho, hl⟩; have H1 := Lib.hid (And.intro ho hl); obtain ⟨y0, y1, y2, y3, y4, y5⟩ := HK.out _ hl.low; clear ho hl)
      | (go_at_call 84; (with_reducible refine (arity1_c _ _ _).mono ?_); rintro e w2 ⟨rfl, hw1⟩; have hw2 := hw1.symm; clear hw1; subst hw2)
      | (go_at_call 53; (with_reducible refine (HF2.out _ _ _ H1.out.2.low (own_C H1.out.1 H1.out.2.low)).mono ?_); rintro e w3 ⟨rfl, hb3⟩; have H3 := Lib.hid (H1.out.2.below hb3); obtain ⟨p0, p1, p2, p3, p4, p5⟩ := cells6 H3.out.b0; obtain ⟨q0, q1, q2, q3, q4, q5⟩ := cells6 H3.out.b1; obtain ⟨r0, r1, r2, r3, r4, r5⟩ := cells6 H3.out.b2; have f1 := fun o => blk_free H3.out.b1 o; have f2 := fun o => blk_free H3.out.b2 o; clear hb3 y0 y1 y2 y3 y4 y5))
    go_region
    all_goals go_wp2
    all_goals refine bodyPost_ret (v := .tuple #[.agg #[.int .i64 0, .bool false, .slice none 0 0, .int .u64 0, .string ⟨#[]⟩, .slice none 0 0], .agg #[.int .i64 6, .bool false, .slice none 0 0, .int .u64 0, .string ⟨#[]⟩, .slice A xs.length c], .bool false]) (by simp [results, Tryz.results50, go_sem, q0, q1, q2, q3, q4, q5, r0, r1, r2, r3, r4, r5]) rfl ?_
    all_goals refine ⟨?_, Or.inl ⟨HA2.out, rfl⟩⟩
    all_goals exact (below_set6 (below_set6 H3.out.low (w.heap.size + 1) (by omega) _ _ _ _ _ _) (w.heap.size + 1 + 1) (by omega) _ _ _ _ _ _).drew
  · have hex : ∃ j, FirstAt ss t j := Classical.byContradiction fun hno => hall fun j hj => by
      induction j using Nat.strongRecOn with
      | _ j ih =>
        cases hq : qOf ss t j with
        | false => rfl
        | true => exact absurd ⟨j, hj, hq, fun i hi => ih i hi (by omega)⟩ hno
    obtain ⟨j, hj⟩ := hex
    have HJ := Lib.hid hj
    have hjl : j < xs.length := by rw [HN.out]; exact hj.1
    have HF2 : Hid (∀ W Al cl, Below w.heap.size w W → kV.C W Al xs.length xs → Calls Tryz.prog 53 #[.slice Al xs.length cl, .int .i64 1, .agg #[.int .i64 y.f0, .bool y.f1, .slice A2 y.f2.length c2, .int .u64 y.f3, .string y.f4, .slice A5 y.f5.length c5]] W fun e W' => e = .returned (.int .i64 (j : Nat)) ∧ Below W.heap.size W W') := Lib.hid fun W Al cl hW hC => (HF.out W Al cl hW hC).mono fun e W' ⟨hb, hr⟩ => by
      rcases hr with ⟨h1, _⟩ | ⟨j', hj', he⟩
      · have h2 := hj.2.1; rw [h1 j hj.1] at h2; cases h2
      · have hjj : j' = j := by
          rcases Nat.lt_trichotomy j' j with h | h | h
          · have h2 := hj'.2.1; rw [hj.2.2 j' h] at h2; cases h2
          · exact h
          · have h2 := hj.2.1; rw [hj'.2.2 j h] at h2; cases h2
        subst hjj
        exact ⟨he, hb⟩
    clear hall HF hj
    go_enter Tryz.func50, Tryz.ntmps50
    go_wp2_with (first
      | (at_builtin; refine wpList_append_ex rfl _ _ _ rfl _ _ rfl rfl HA.out ?_; rintro v1 w1 ⟨⟨Al, cl, rfl⟩, ho, hl⟩; have H1 := Lib.hid (And.intro ho hl); obtain ⟨y0, y1, y2, y3, y4, y5⟩ := HK.out _ hl.low; clear ho hl)
      | (go_at_call 84; (with_reducible refine (arity1_c _ _ _).mono ?_); rintro e w2 ⟨rfl, hw1⟩; have hw2 := hw1.symm; clear hw1; subst hw2)
      | (go_at_call 53; (with_reducible refine (HF2.out _ _ _ H1.out.2.low (own_C H1.out.1 H1.out.2.low)).mono ?_); rintro e w3 ⟨rfl, hb3⟩; have H3 := Lib.hid (And.intro (H1.out.2.below hb3) (ReadsRow.imp_ (own_kV H1.out.1) hb3 (fun _ _ h => h))); have HLE := Lib.hid (own_cl H1.out.1); clear hb3 y0 y1 y2 y3 y4 y5)
      | (go_at_call 88; (with_reducible refine (without_c w _ _ xs j _ H3.out.2 HLE.out hjl (by omega)).mono ?_); rintro e w4 ⟨A', c', rfl, ho4, hb4⟩; have H4 := Lib.hid (And.intro (H3.out.1.below hb4) ho4); obtain ⟨q0, q1, q2, q3, q4, q5⟩ := cells6 H4.out.1.b1; obtain ⟨r0, r1, r2, r3, r4, r5⟩ := cells6 H4.out.1.b2; have f1 := fun o => blk_free H4.out.1.b1 o; have f2 := fun o => blk_free H4.out.1.b2 o; clear hb4 ho4))
    refine bodyPost_ret (v := .tuple #[.agg #[.int .i64 0, .bool false, .slice none 0 0, .int .u64 0, .string ⟨#[]⟩, .slice none 0 0], .agg #[.int .i64 6, .bool false, .slice none 0 0, .int .u64 0, .string ⟨#[]⟩, .slice A' (xs.eraseIdx j).length c'], .bool true]) (by simp [results, Tryz.results50, go_sem, q0, q1, q2, q3, q4, q5, r0, r1, r2, r3, r4, r5]) rfl ?_
    have h12 : w.heap.size + 2 < w3.heap.size := lt_blk H3.out.1.b2
    have hB : Below w.heap.size w ((((((((((((w4.setCell ⟨w.heap.size + 1, 0, none⟩ (.int .i64 0)).setCell ⟨w.heap.size + 1, 1, none⟩ (.bool false)).setCell ⟨w.heap.size + 1, 2, none⟩ (.slice none 0 0)).setCell ⟨w.heap.size + 1, 3, none⟩ (.int .u64 0)).setCell ⟨w.heap.size + 1, 4, none⟩ (.string ⟨#[]⟩)).setCell ⟨w.heap.size + 1, 5, none⟩ (.slice none 0 0)).setCell ⟨w.heap.size + 1 + 1, 0, none⟩ (.int .i64 6)).setCell ⟨w.heap.size + 1 + 1, 1, none⟩ (.bool false)).setCell ⟨w.heap.size + 1 + 1, 2, none⟩ (.slice none 0 0)).setCell ⟨w.heap.size + 1 + 1, 3, none⟩ (.int .u64 0)).setCell ⟨w.heap.size + 1 + 1, 4, none⟩ (.string ⟨#[]⟩)).setCell ⟨w.heap.size + 1 + 1, 5, none⟩ (.slice A' (xs.eraseIdx j).length c')) := by
      exact below_set6 (below_set6 H4.out.1.low (w.heap.size + 1) (by omega) _ _ _ _ _ _) (w.heap.size + 1 + 1) (by omega) _ _ _ _ _ _
    refine ⟨hB, Or.inr ⟨j, A', c', HJ.out, rfl, own_C (B := w3.heap.size) (n := (xs.eraseIdx j).length) (c := c') ?_ hB⟩⟩
    exact own_set6 (own_set6 H4.out.2 (w.heap.size + 1) (by omega) _ _ _ _ _ _) (w.heap.size + 1 + 1) (by omega) _ _ _ _ _ _
end Go.Proofs.YtkplnbjgkhmbcaaGreatDoor

namespace Go.Proofs.YtkplnbjgkhmbcaaGreatDoor
open Go.RowKit Go.Shelf Go.Proofs.YtkplnbjgkhmbcaaGreatDoorW.PrintWords Go.Proofs.YtkplnbjgkhmbcaaGreatDoorW.PrintLast Go.Proofs.YtkplnbjgkhmbcaaGreatDoorW.PrintMore Go.Proofs.YtkplnbjgkhmbcaaGreatDoor.PFnCompare Go.Proofs.YtkplnbjgkhmbcaaGreatDoor.PCmp Go.Proofs.YtkplnbjgkhmbcaaGreatDoor.PbytesOf Go.Proofs.YtkplnbjgkhmbcaaGreatDoor.Pcmp
set_option linter.unusedVariables false
set_option linter.unusedSimpArgs false

/-- A row of Vals that came in. -/
def RRow (w : World) (A : Option Addr) (xs : List VT) : Prop := ∀ i (hi : i < xs.length), ∃ b o A2 c2 A5 n5 c5, A = some ⟨b, o, none⟩ ∧ b < w.heap.size ∧
  w.cell? ⟨b, o + i * 6, none⟩ = some (.int .i64 xs[i].f0) ∧ w.cell? ⟨b, o + i * 6 + 1, none⟩ = some (.bool xs[i].f1) ∧ w.cell? ⟨b, o + i * 6 + 2, none⟩ = some (.slice A2 xs[i].f2.length c2) ∧ w.cell? ⟨b, o + i * 6 + 3, none⟩ = some (.int .u64 xs[i].f3) ∧ w.cell? ⟨b, o + i * 6 + 4, none⟩ = some (.string xs[i].f4) ∧ w.cell? ⟨b, o + i * 6 + 5, none⟩ = some (.slice A5 n5 c5) ∧
  RR w (.agg #[.int .i64 xs[i].f0, .bool xs[i].f1, .slice A2 xs[i].f2.length c2, .int .u64 xs[i].f3, .string xs[i].f4, .slice A5 n5 c5]) xs[i]
theorem vm_shape {B : Nat} {w : World} {u : Value} {y : VT} (h : VM B w u y) : ∃ A2 c2 A5 c5, u = .agg #[.int .i64 y.f0, .bool y.f1, .slice A2 y.f2.length c2, .int .u64 y.f3, .string y.f4, .slice A5 y.f5.length c5] ∧ kV.M w B (fun _ => True) y [.int .i64 y.f0, .bool y.f1, .slice A2 y.f2.length c2, .int .u64 y.f3, .string y.f4, .slice A5 y.f5.length c5] := by
  obtain ⟨cs, rfl, hM⟩ := h
  obtain ⟨v2, v5, rfl, g2, g5⟩ := k26_openM hM
  obtain ⟨A2, c2, rfl⟩ := Kd.R_slice g2
  obtain ⟨A5, c5, rfl⟩ := Kd.R_slice g5
  exact ⟨A2, c2, A5, c5, rfl, hM⟩
theorem canonL_snoc {ss : List Sca} {ys : List VT} {s : Sca} {y : VT} (h : CanonL ss ys) (hc : Canon s y) : CanonL (ss ++ [s]) (ys ++ [y]) := by
  have hl := h.1
  refine ⟨by simp [hl], fun i h1 h2 => ?_⟩
  by_cases hi : i < ys.length
  · rw [List.getElem_append_left hi, List.getElem_append_left (by omega)]
    exact h.2 i hi (by omega)
  · have hie : i = ys.length := by simp at h1; omega
    subst hie
    have e2 : (ys ++ [y])[ys.length] = y := by simp
    have e3 : (ss ++ [s])[ys.length]'h2 = s := by simp [hl]
    rw [e2, e3]
    exact hc
/-- A row of Vals that the call has made. -/
def MR (w : World) (B : Nat) (v : Value) (ys : List VT) : Prop := kV.R 26 w B (fun _ => True) v ys
def Fits (ss : List Sca) (ys : List VT) : Prop := CanonL ss ys ∧ (∀ s ∈ ss, s.fit)
/-- What laws.listOf answers. -/
def LOf (w : World) (e : Ending) (w' : World) : Prop := ∃ v ss ys, e = .returned v ∧ ys.length ≤ 12 ∧ Fits ss ys ∧ MR w' w.heap.size v ys ∧ Below w.heap.size w w'

theorem made_facts {w wr w1 : World} {out : Value} {ys : List VT} {y : VT} {s : Sca} {cs : List Value} (hR : MR wr w.heap.size out ys) (hB : Below w.heap.size w wr) (hM : kV.M w1 wr.heap.size (fun _ => True) y cs) (hc : Canon s y) (hf : s.fit) (hb : Below wr.heap.size wr w1) :
    kV.M w1 w.heap.size (fun k => wr.heap.size ≤ k) y cs ∧ (Canon s y ∧ s.fit) ∧ (∀ k, wr.heap.size ≤ k → True ∧ some k ≠ out.ownBlock) ∧ kV.R 26 w1 w.heap.size (fun _ => True) out ys ∧ Below w.heap.size w w1 := by
  refine ⟨Kd.M_lower _ hB.size (Kd.M_mono _ (fun k hk => hk.2.1) (Kd.M_bound _ hM)), ⟨hc, hf⟩, fun k hk => ⟨trivial, fun e => ?_⟩, Kd.R_below hR hb, hB.trans (hb.mono hB.size)⟩
  obtain ⟨inner, ho⟩ := Kd.R_own hR
  have := own_lt ho k e.symm
  omega
set_option maxRecDepth 100000 in
set_option maxHeartbeats 1000000 in
theorem lawsListOf_c (A : Option Addr) (c : Nat) (xs : List VT) (w : World) (h : RRow w A xs) (hr : ∀ x ∈ xs, Raw x) :
    Calls Tryz.prog 19 #[.slice A xs.length c] w (LOf w) := by
  have HK := Lib.hid h
  have HRw := Lib.hid hr
  clear h hr
  go_enter Tryz.func19, Tryz.ntmps19
  go_wp2_with fail
  go_loopw [3, 4] (fun out i wr => ∃ (j : Nat) (ss : List Sca) (ys : List VT), j ≤ xs.length ∧ j ≤ 12 ∧ i = .int .i64 (j : Int) ∧ ys.length = j ∧ Hid (Fits ss ys) ∧ Hid (MR wr w.heap.size out ys ∧ Below w.heap.size w wr)) (fun _ i _ => 12 - (intOf i).toNat)
  case atStart => exact ⟨0, [], [], Nat.zero_le _, Nat.zero_le _, rfl, rfl, Lib.hid ⟨⟨rfl, fun i h => absurd h (Nat.not_lt_zero _)⟩, fun s h => by cases h⟩, Lib.hid ⟨Kd.R_nil _ _ _ _ _, Below.refl _ _⟩⟩
  case round =>
    obtain ⟨j, ss, ys, hj, hj12, rfl, hys, HF, HR⟩ := hrel
    by_cases hlt : j < xs.length
    · by_cases h12 : (j : Int) < 12
      · obtain ⟨b, o, A2, c2, A5, n5, c5, rfl, hb, k0, k1, k2, k3, k4, k5, hV⟩ := HK.out j hlt
        have hB := HR.out.2
        have x0 := (hB.cell (p := ⟨b, o + j * 6, none⟩) hb).trans k0
        have x1 := (hB.cell (p := ⟨b, o + j * 6 + 1, none⟩) hb).trans k1
        have x2 := (hB.cell (p := ⟨b, o + j * 6 + 2, none⟩) hb).trans k2
        have x3 := (hB.cell (p := ⟨b, o + j * 6 + 3, none⟩) hb).trans k3
        have x4 := (hB.cell (p := ⟨b, o + j * 6 + 4, none⟩) hb).trans k4
        have x5 := (hB.cell (p := ⟨b, o + j * 6 + 5, none⟩) hb).trans k5
        have HC := Lib.hid (clean_c xs[j] _ _ (hV.below hB) (HRw.out _ (List.getElem_mem hlt)))
        clear k0 k1 k2 k3 k4 k5 hV hB
        go_wp2_with (first
          | (at_builtin; refine Kd.R_append kV (w0 := w) w.heap.size rfl _ _ 24 26 (.agg #[.int .i64 0, .bool false, .slice none 0 0, .int .u64 0, .string ⟨#[]⟩, .slice none 0 0]) 88 rfl Tryz.underlying24 vInfo rfl (by decide) (by omega) u3 ys y _ (fun _ => True) (fun k => wr.heap.size ≤ k) rfl rfl HV.out.1 HV.out.2.2.1 (fun _ _ => trivial) HV.out.2.2.2.1 HV.out.2.2.2.2 HV.out.2.2.2.2.size (by omega) ?_; intro v1 w2 ho hb2 hg hat; have HO := Lib.hid (And.intro (show MR w2 w.heap.size v1 (ys ++ [y]) from ho) hb2); clear ho hb2 hg hat)
          | (go_at_call 9; (with_reducible refine HC.out.mono ?_); rintro e w1 ⟨u, s, y, rfl, hv, hc, hf, hb1⟩; obtain ⟨P2, p2, P5, p5, rfl, hM⟩ := vm_shape hv; have HV := Lib.hid (made_facts HR.out.1 HR.out.2 hM hc hf hb1); clear hv hc hf hb1 hM))
        go_roundw
        case rel => exact ⟨j + 1, ss ++ [s], ys ++ [y], by omega, by omega, by go_num, by simp [hys], Lib.hid ⟨canonL_snoc HF.out.1 HV.out.2.1.1, fun q hq => by rcases List.mem_append.1 hq with h | h; exact HF.out.2 q h; rw [List.mem_singleton] at h; rw [h]; exact HV.out.2.1.2⟩, HO⟩
        case measure => simp [intOf]; omega
      · have h12b : ¬ ((j : Int) < 12) := h12
        go_wp2
        go_ret
        exact ⟨_, ss, ys, rfl, by omega, HF.out, HR.out.1, HR.out.2⟩
    · have hje : ¬ ((j : Int) < xs.length) := by omega
      go_wp2
      go_ret
      exact ⟨_, ss, ys, rfl, by omega, HF.out, HR.out.1, HR.out.2⟩
end Go.Proofs.YtkplnbjgkhmbcaaGreatDoor

namespace Go.Proofs.YtkplnbjgkhmbcaaGreatDoor
open Go.RowKit Go.Shelf Go.Proofs.YtkplnbjgkhmbcaaGreatDoorW.PrintWords Go.Proofs.YtkplnbjgkhmbcaaGreatDoorW.PrintLast Go.Proofs.YtkplnbjgkhmbcaaGreatDoorW.PrintMore Go.Proofs.YtkplnbjgkhmbcaaGreatDoor.PFnCompare Go.Proofs.YtkplnbjgkhmbcaaGreatDoor.PCmp Go.Proofs.YtkplnbjgkhmbcaaGreatDoor.PbytesOf Go.Proofs.YtkplnbjgkhmbcaaGreatDoor.Pcmp
set_option linter.unusedVariables false
set_option linter.unusedSimpArgs false

theorem first_one {ss : List Sca} {t : Sca} {i j : Nat} (hi : FirstAt ss t i) (hj : FirstAt ss t j) : i = j := by
  rcases Nat.lt_trichotomy i j with h | h | h
  · have h2 := hi.2.1; rw [hj.2.2 i h] at h2; cases h2
  · exact h
  · have h2 := hj.2.1; rw [hi.2.2 j h] at h2; cases h2
theorem canonL_erase {ss : List Sca} {xs : List VT} (h : CanonL ss xs) (j : Nat) : CanonL (ss.eraseIdx j) (xs.eraseIdx j) := by
  refine ⟨by rw [List.length_eraseIdx, List.length_eraseIdx, h.1], fun i h1 h2 => ?_⟩
  by_cases hij : i < j
  · rw [List.getElem_eraseIdx_of_lt (h' := hij), List.getElem_eraseIdx_of_lt (h' := hij)]
    exact h.2 i _ _
  · rw [List.getElem_eraseIdx_of_ge (h' := by omega), List.getElem_eraseIdx_of_ge (h' := by omega)]
    exact h.2 (i + 1) _ _
/-- Two rows of Vals of the same scalars. -/
theorem same_rows {ss : List Sca} {xs ys : List VT} (h1 : CanonL ss xs) (h2 : CanonL ss ys) (A B : Option Addr) (c d : Nat) (w : World) (k1 : kV.C w A xs.length xs) (k2 : kV.C w B ys.length ys) (hn : xs.length ≤ 1000000) :
    Calls Tryz.prog 45 #[.slice A xs.length c, .slice B ys.length d] w fun e w' => e = .returned (.bool true) ∧ Below w.heap.size w w' :=
  specSameL_c A B c d xs ys w k1 k2 (h2.1.trans h1.1.symm) (fun i i1 i2 => canon_alike (h1.2 i i1 (by rw [← h1.1]; exact i1)) (h2.2 i i2 (by rw [← h1.1]; exact i1))) hn

set_option maxRecDepth 100000 in
theorem fits7_c (v : Value) (x : VT) (w : World) (h : VR w v x) : Calls Tryz.prog 8 #[v] w fun e w' => e = .returned (.bool (decide (x.f2.length ≤ 2147483647 ∧ x.f4.size ≤ 2147483647 ∧ x.f5.length ≤ 2147483647))) ∧ Below w.heap.size w w' := by
  obtain ⟨A2, c2, A5, c5, rfl, _⟩ := h.open
  clear h
  have hB : Below w.heap.size w (w.alloc (.cells #[.int .i64 x.f0, .bool x.f1, .slice A2 x.f2.length c2, .int .u64 x.f3, .string x.f4, .slice A5 x.f5.length c5] 26)) := (Below.refl _ w).alloc (Nat.le_refl _) _
  have HB := Lib.hid hB
  clear hB
  by_cases h1 : (2147483647 : Int) < x.f2.length
  · have hr : decide (x.f2.length ≤ 2147483647 ∧ x.f4.size ≤ 2147483647 ∧ x.f5.length ≤ 2147483647) = false := by simp; omega
    rw [hr]
    go_enter Tryz.func8, Tryz.ntmps8
    go_wp2
    go_ret
    exact ⟨rfl, HB.out⟩
  · by_cases h2 : (2147483647 : Int) < x.f4.size
    · have hr : decide (x.f2.length ≤ 2147483647 ∧ x.f4.size ≤ 2147483647 ∧ x.f5.length ≤ 2147483647) = false := by simp; omega
      rw [hr]
      go_enter Tryz.func8, Tryz.ntmps8
      go_wp2
      go_ret
      exact ⟨rfl, HB.out⟩
    · by_cases h3 : (2147483647 : Int) < x.f5.length
      · have hr : decide (x.f2.length ≤ 2147483647 ∧ x.f4.size ≤ 2147483647 ∧ x.f5.length ≤ 2147483647) = false := by simp; omega
        rw [hr]
        go_enter Tryz.func8, Tryz.ntmps8
        go_wp2
        go_ret
        exact ⟨rfl, HB.out⟩
      · have hr : decide (x.f2.length ≤ 2147483647 ∧ x.f4.size ≤ 2147483647 ∧ x.f5.length ≤ 2147483647) = true := by simp; omega
        rw [hr]
        go_enter Tryz.func8, Tryz.ntmps8
        go_wp2
        go_ret
        exact ⟨rfl, HB.out⟩
set_option maxRecDepth 100000 in
set_option maxHeartbeats 1000000 in
theorem doesNone_c (A : Option Addr) (c : Nat) (xs : List VT) (ss : List Sca) (y : VT) (t : Sca) (b : Nat) (A2 A5 : Option Addr) (c2 c5 : Nat) (w : World) (h : kV.C w A xs.length xs) (hb : w.heap[b]? = some (.cells #[.int .i64 y.f0, .bool y.f1, .slice A2 y.f2.length c2, .int .u64 y.f3, .string y.f4, .slice A5 y.f5.length c5] 26 (0, 0))) (hy : VR w (.agg #[.int .i64 y.f0, .bool y.f1, .slice A2 y.f2.length c2, .int .u64 y.f3, .string y.f4, .slice A5 y.f5.length c5]) y) (hx : CanonL ss xs) (ht : Canon t y) (hn : xs.length ≤ 12) (hall : ∀ j, j < ss.length → qOf ss t j = false) :
    Calls Tryz.prog 21 #[.slice A xs.length c, .string ⟨#[114, 101, 109, 111, 118, 101]⟩, .slice (some ⟨b, 0, none⟩) 1 1, .slice none 0 0, .bool false] w fun e w' => e = .returned (.bool true) ∧ Below w.heap.size w w' := by
  have HM : Hid (Calls Tryz.prog 50 #[.agg #[.int .i64 6, .bool false, .slice none 0 0, .int .u64 0, .string ⟨#[]⟩, .slice A xs.length c], .string ⟨#[114, 101, 109, 111, 118, 101]⟩, .slice (some ⟨b, 0, none⟩) 1 1] w fun e w' => e = .returned (.tuple #[.agg #[.int .i64 0, .bool false, .slice none 0 0, .int .u64 0, .string ⟨#[]⟩, .slice none 0 0], .agg #[.int .i64 6, .bool false, .slice none 0 0, .int .u64 0, .string ⟨#[]⟩, .slice A xs.length c], .bool false]) ∧ Below w.heap.size w w') := Lib.hid ((specRem_c A c xs ss y t b A2 A5 c2 c5 w h hb hy hx ht hn).mono fun e w' ⟨h1, h2⟩ => by
    rcases h2 with ⟨_, h2⟩ | ⟨j, A', c', hj, _⟩
    · exact ⟨h2, h1⟩
    · have h2 := hj.2.1; rw [hall j hj.1] at h2; cases h2)
  clear h hb hy hx ht hall
  go_enter Tryz.func21, Tryz.ntmps21
  go_wp2_with (go_at_call 50; (with_reducible refine HM.out.mono ?_); rintro e w1 ⟨rfl, hb1⟩; have HB := Lib.hid hb1; clear hb1)
  go_ret
  exact ⟨rfl, (HB.out.alloc HB.out.size _).alloc (by have := HB.out.size; simp; omega) _⟩
theorem below2 {w W : World} (h : Below w.heap.size w W) (o1 o2 : Obj) : Below w.heap.size w ((W.alloc o1).alloc o2) := (h.alloc h.size _).alloc (by have := h.size; simp; omega) _
theorem kids2 {W : World} {A : Option Addr} {n : Nat} {xs : List VT} (h : kV.C W A n xs) (o1 o2 : Obj) : kV.C ((W.alloc o1).alloc o2) A n xs := Kd.C_below h (((Below.refl _ W).alloc (Nat.le_refl _) _).alloc (by simp) _)
set_option maxRecDepth 100000 in
set_option maxHeartbeats 1000000 in
theorem doesAt_c (A : Option Addr) (c : Nat) (xs ys : List VT) (ss : List Sca) (y : VT) (t : Sca) (b j : Nat) (A2 A5 M : Option Addr) (c2 c5 m : Nat) (w : World) (h : kV.C w A xs.length xs) (hb : w.heap[b]? = some (.cells #[.int .i64 y.f0, .bool y.f1, .slice A2 y.f2.length c2, .int .u64 y.f3, .string y.f4, .slice A5 y.f5.length c5] 26 (0, 0))) (hy : VR w (.agg #[.int .i64 y.f0, .bool y.f1, .slice A2 y.f2.length c2, .int .u64 y.f3, .string y.f4, .slice A5 y.f5.length c5]) y) (hx : CanonL ss xs) (ht : Canon t y) (hn : xs.length ≤ 12) (hj : FirstAt ss t j) (hys : kV.C w M ys.length ys) (hcy : CanonL (ss.eraseIdx j) ys) :
    Calls Tryz.prog 21 #[.slice A xs.length c, .string ⟨#[114, 101, 109, 111, 118, 101]⟩, .slice (some ⟨b, 0, none⟩) 1 1, .slice M ys.length m, .bool true] w fun e w' => e = .returned (.bool true) ∧ Below w.heap.size w w' := by
  have HM : Hid (Calls Tryz.prog 50 #[.agg #[.int .i64 6, .bool false, .slice none 0 0, .int .u64 0, .string ⟨#[]⟩, .slice A xs.length c], .string ⟨#[114, 101, 109, 111, 118, 101]⟩, .slice (some ⟨b, 0, none⟩) 1 1] w fun e w' => ∃ A' c', e = .returned (.tuple #[.agg #[.int .i64 0, .bool false, .slice none 0 0, .int .u64 0, .string ⟨#[]⟩, .slice none 0 0], .agg #[.int .i64 6, .bool false, .slice none 0 0, .int .u64 0, .string ⟨#[]⟩, .slice A' (xs.eraseIdx j).length c'], .bool true]) ∧ kV.C w' A' (xs.eraseIdx j).length (xs.eraseIdx j) ∧ Below w.heap.size w w') := Lib.hid ((specRem_c A c xs ss y t b A2 A5 c2 c5 w h hb hy hx ht hn).mono fun e w' ⟨h1, h2⟩ => by
    rcases h2 with ⟨h2, _⟩ | ⟨j', A', c', hj', h3, h4⟩
    · have h5 := hj.2.1; rw [h2 j hj.1] at h5; cases h5
    · obtain rfl := first_one hj' hj
      exact ⟨A', c', h3, h4, h1⟩)
  have hlen : (xs.eraseIdx j).length ≤ 12 := Nat.le_trans (List.length_eraseIdx_le _ _) hn
  have hyl : ys.length ≤ 1000000 := by rw [hcy.1, ← (canonL_erase hx j).1]; omega
  have HS : Hid (∀ W A' c', Below w.heap.size w W → kV.C W A' (xs.eraseIdx j).length (xs.eraseIdx j) → Calls Tryz.prog 45 #[.slice M ys.length m, .slice A' (xs.eraseIdx j).length c'] W fun e W' => e = .returned (.bool true) ∧ Below W.heap.size W W') := Lib.hid fun W A' c' hW hC => same_rows hcy (canonL_erase hx j) M A' m c' W (Kd.C_below hys hW) hC hyl
  clear h hb hy hx ht hj hys hcy hyl hlen
  go_enter Tryz.func21, Tryz.ntmps21
  go_wp2_with (first
    | (go_at_call 50; (with_reducible refine HM.out.mono ?_); rintro e w1 ⟨A', c', rfl, hC1, hb1⟩; have HB := Lib.hid (And.intro hC1 hb1); clear hC1 hb1)
    | (go_at_call 45; (with_reducible refine (HS.out _ _ _ (below2 HB.out.2 _ _) (kids2 HB.out.1 _ _)).mono ?_); rintro e w2 ⟨rfl, hb2⟩; have HB2 := Lib.hid ((below2 HB.out.2 _ _).trans (hb2.mono (below2 HB.out.2 _ _).size)); clear hb2))
  go_ret
  exact ⟨rfl, HB2.out⟩
end Go.Proofs.YtkplnbjgkhmbcaaGreatDoor
