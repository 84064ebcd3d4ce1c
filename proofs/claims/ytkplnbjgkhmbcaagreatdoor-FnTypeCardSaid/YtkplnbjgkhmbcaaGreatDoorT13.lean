/- TreeCB TreeKey TreeSca TreeRow TreeSet NumHash NumTree HashA HashQ TreeVal -/
import Derived.Test.YtkplnbjgkhmbcaaGreatDoorT12
import Derived.Test.YtkplnbjgkhmbcaaGreatDoorT04
import Derived.Test.YtkplnbjgkhmbcaaGreatDoorT06
import Derived.Test.YtkplnbjgkhmbcaaGreatDoorT10
namespace Go.Proofs.YtkplnbjgkhmbcaaGreatDoor
open Go.RowKit Go.Shelf Go.Proofs.YtkplnbjgkhmbcaaGreatDoorW.PrintWords Go.Proofs.YtkplnbjgkhmbcaaGreatDoorW.PrintLast Go.Proofs.YtkplnbjgkhmbcaaGreatDoorW.PrintMore Go.Proofs.YtkplnbjgkhmbcaaGreatDoor.PFnCompare Go.Proofs.YtkplnbjgkhmbcaaGreatDoor.PCmp Go.Proofs.YtkplnbjgkhmbcaaGreatDoor.PbytesOf Go.Proofs.YtkplnbjgkhmbcaaGreatDoor.Pcmp
set_option linter.unusedVariables false
set_option linter.unusedSimpArgs false
abbrev zero6 : Array Value := #[.int .i64 0, .bool false, .slice none 0 0, .int .u64 0, .string ⟨#[]⟩, .slice none 0 0]
def Free (n : Nat) (k : Nat) : Prop := k < n ∨ n + 3 ≤ k
structure CB (w0 : World) (B : Nat) (F : Nat → Prop) (cs : Array Value) (k : Int) (out : Value) (ys : List VT) (w : World) : Prop where
  b1 : w.heap[w0.heap.size]? = some (.cells cs 26 (0, 0))
  b2 : w.heap[w0.heap.size + 1]? = some (.cells zero6 26 (0, 0))
  b3 : w.heap[w0.heap.size + 2]? = some (.cells #[.int .i64 k, .bool false, .slice none 0 0, .int .u64 0, .string ⟨#[]⟩, out] 26 (0, 0))
  row : kV.R 26 w B F out ys
  hF : ∀ j, F j → Free w0.heap.size j
  hN : ∀ j, w0.heap.size + 3 ≤ j → F j
  far : ∀ j, out.ownBlock = some j → w0.heap.size + 3 ≤ j
  low : Below w0.heap.size w0 w
theorem CB.size {w0 w : World} {B : Nat} {F : Nat → Prop} {cs : Array Value} {k : Int} {out : Value} {ys : List VT} (h : CB w0 B F cs k out ys w) : w0.heap.size + 3 ≤ w.heap.size := lt_blk h.b3
theorem CB.below {w0 w w1 : World} {B : Nat} {F : Nat → Prop} {cs : Array Value} {k : Int} {out : Value} {ys : List VT} (h : CB w0 B F cs k out ys w) (hb : Below w.heap.size w w1) : CB w0 B F cs k out ys w1 :=
  ⟨blk_below h.b1 hb, blk_below h.b2 hb, blk_below h.b3 hb, Kd.R_below h.row hb, h.hF, h.hN, h.far, h.low.trans (hb.mono (by have := h.size; omega))⟩
theorem CB.start (w : World) (B : Nat) (F : Nat → Prop) (cs : Array Value) (k : Int) (hF : ∀ j, F j → Free w.heap.size j) (hN : ∀ j, w.heap.size + 3 ≤ j → F j) : CB w B F cs k (.slice none 0 0) [] (((w.alloc (.cells cs 26)).alloc (.cells zero6 26)).alloc (.cells #[.int .i64 k, .bool false, .slice none 0 0, .int .u64 0, .string ⟨#[]⟩, .slice none 0 0] 26)) := by
  refine ⟨blk_alloc (blk_alloc (blk_new _ _) _) _, blk_alloc (by simpa using blk_new (w.alloc (.cells cs 26)) (.cells zero6 26)) _, by simpa using blk_new ((w.alloc (.cells cs 26)).alloc (.cells zero6 26)) _, Kd.R_nil _ _ _ _ _, hF, hN, fun j hj => by simp [Value.ownBlock] at hj, (((Below.refl _ w).alloc (Nat.le_refl _) _).alloc (by simp) _).alloc (by simp; omega) _⟩
theorem CB.push {w0 W w1 : World} {B : Nat} {F : Nat → Prop} {cs : Array Value} {k : Int} {out v1 : Value} {ys ys' : List VT} (h : CB w0 B F cs k out ys W) (hR : kV.R 26 w1 B F v1 ys') (hg : W.grownBy w1 out.ownBlock) (hat : v1.ownBlock = out.ownBlock ∨ ∃ b, v1.ownBlock = some b ∧ W.heap.size ≤ b) :
    CB w0 B F cs k v1 ys' (w1.setCell ⟨w0.heap.size + 2, 5, none⟩ v1) := by
  have hs := h.size
  have hne : ∀ j, j < w0.heap.size + 3 → some j ≠ out.ownBlock := fun j hj e => by have := h.far j e.symm; omega
  have hfar : ∀ j, v1.ownBlock = some j → w0.heap.size + 3 ≤ j := by
    intro j hj
    rcases hat with e | ⟨b, e, hb⟩
    · exact h.far j (e ▸ hj)
    · rw [e] at hj
      injection hj with hj
      omega
  refine ⟨blk_far (blk_grown h.b1 hg (hne _ (by omega))) (by show w0.heap.size ≠ w0.heap.size + 2; omega) _, blk_far (blk_grown h.b2 hg (hne _ (by omega))) (by show w0.heap.size + 1 ≠ w0.heap.size + 2; omega) _, ?_, Kd.R_far (p := ⟨w0.heap.size + 2, 5, none⟩) hR (fun j hj => by show j ≠ w0.heap.size + 2; rcases h.hF j hj with hj | hj <;> omega) _, h.hF, h.hN, hfar, ?_⟩
  · exact blk_put (blk_grown h.b3 hg (hne _ (by omega))) 5 v1 rfl
  · exact (h.low.grown hg (by omega) (fun j hj => by have := h.far j hj; omega)).setCell (by show w0.heap.size ≤ w0.heap.size + 2; omega) _
theorem CB.done {w0 w : World} {B : Nat} {F : Nat → Prop} {cs : Array Value} {k : Int} {out : Value} {ys : List VT} (h : CB w0 B F cs k out ys w) : kV.M w B F ⟨k, false, [], 0, ⟨#[]⟩, ys⟩ [.int .i64 k, .bool false, .slice none 0 0, .int .u64 0, .string ⟨#[]⟩, out] :=
  k26_mkM w B _ ⟨k, false, [], 0, ⟨#[]⟩, ys⟩ (Kd.R_nil _ _ _ _ _) h.row
theorem CB.app {w0 wr w1 : World} {B : Nat} {F okk : Nat → Prop} {cs : Array Value} {k : Int} {out : Value} {ys : List VT} {y : VT} {c : List Value} (h : CB w0 B F cs k out ys wr) (hb : Below wr.heap.size wr w1) (hM : kV.M w1 B (fun j => okk j ∨ wr.heap.size ≤ j) y c) (hk : ∀ j, okk j → F j ∧ j < w0.heap.size) (hB : B ≤ w0.heap.size) :
    kV.M w1 B (fun j => okk j ∨ wr.heap.size ≤ j) y c ∧ (∀ j, (okk j ∨ wr.heap.size ≤ j) → F j ∧ some j ≠ out.ownBlock) ∧ (∀ j, w1.heap.size ≤ j → F j) ∧ kV.R 26 w1 B F out ys ∧ Below B w1 w1 ∧ B ≤ w1.heap.size ∧ CB w0 B F cs k out ys w1 := by
  have h1 := h.below hb
  have hs := h.size
  have hs1 := h1.size
  obtain ⟨inner, ho⟩ := Kd.R_own h.row
  refine ⟨hM, fun j hj => ?_, fun j hj => h.hN j (by omega), h1.row, Below.refl _ _, by omega, h1⟩
  rcases hj with hj | hj
  · exact ⟨(hk j hj).1, fun e => by have := h.far j e.symm; have := (hk j hj).2; omega⟩
  · exact ⟨h.hN j (by omega), fun e => by have := own_lt ho j e.symm; omega⟩
theorem kidM_at {w : World} {B : Nat} {F : Nat → Prop} {A : Option Addr} {c : Nat} {xs : List VT} (h : kV.R 26 w B F (.slice A xs.length c) xs) (i : Nat) (hi : i < xs.length) :
    ∃ b A2 c2 A5 c5, A = some ⟨b, 0, none⟩ ∧ b < w.heap.size ∧
      w.cell? ⟨b, i * 6, none⟩ = some (.int .i64 xs[i].f0) ∧ w.cell? ⟨b, i * 6 + 1, none⟩ = some (.bool xs[i].f1) ∧ w.cell? ⟨b, i * 6 + 2, none⟩ = some (.slice A2 xs[i].f2.length c2) ∧ w.cell? ⟨b, i * 6 + 3, none⟩ = some (.int .u64 xs[i].f3) ∧ w.cell? ⟨b, i * 6 + 4, none⟩ = some (.string xs[i].f4) ∧ w.cell? ⟨b, i * 6 + 5, none⟩ = some (.slice A5 xs[i].f5.length c5) ∧
      kV.M w B F xs[i] [.int .i64 xs[i].f0, .bool xs[i].f1, .slice A2 xs[i].f2.length c2, .int .u64 xs[i].f3, .string xs[i].f4, .slice A5 xs[i].f5.length c5] := by
  rcases A with _ | ad
  · obtain ⟨A', c', e, _, hC⟩ := Kd.R_reads h
    cases e
    obtain ⟨ad, hn, _⟩ := hC.2.2 (by omega)
    cases hn
  · obtain ⟨b, rfl⟩ : ∃ g, ad = ⟨g, 0, none⟩ := by
      obtain ⟨_, inner, ho, _⟩ := h
      rcases ho.2 with ⟨hv, _⟩ | ⟨g, cap', cur, hv, _⟩
      · cases hv
      · injection hv with ha _ _
        injection ha with ha
        exact ⟨g, ha⟩
    obtain ⟨cs, hcl, hM, hcc⟩ := Kd.R_get h xs[i] (i : Int) (by omega) (by omega)
    have e : xs.getD (i : Int).toNat xs[i] = xs[i] := by
      rw [Int.toNat_natCast, List.getD_eq_getElem?_getD, List.getElem?_eq_getElem hi]; rfl
    rw [e] at hM
    obtain ⟨v2, v5, rfl, g2, g5⟩ := k26_openM hM
    obtain ⟨A2, c2, rfl⟩ := Kd.R_slice g2
    obtain ⟨A5, c5, rfl⟩ := Kd.R_slice g5
    have hsz : kV.sz = 6 := rfl
    rw [hsz, Int.toNat_natCast] at hcc
    have ha : ∀ j, (⟨b, 0, none⟩ : Addr).add j = ⟨b, 0 + j, none⟩ := fun j => by
      unfold Addr.add; split <;> simp_all
    simp only [ha] at hcc
    have h0' := hcc 0 _ rfl
    exact ⟨b, A2, c2, A5, c5, rfl, lt_of_cell h0', by simpa using hcc 0 _ rfl, by simpa using hcc 1 _ rfl, by simpa using hcc 2 _ rfl, by simpa using hcc 3 _ rfl, by simpa using hcc 4 _ rfl, by simpa using hcc 5 _ rfl, Kd.M_mono _ (fun k hk => hk.1) hM⟩
theorem m_shape {w : World} {B : Nat} {F : Nat → Prop} {x : VT} {cs : List Value} (h : kV.M w B F x cs) : ∃ A2 c2 A5 c5, cs = [.int .i64 x.f0, .bool x.f1, .slice A2 x.f2.length c2, .int .u64 x.f3, .string x.f4, .slice A5 x.f5.length c5] := by
  obtain ⟨v2, v5, rfl, g2, g5⟩ := k26_openM h
  obtain ⟨A2, c2, rfl⟩ := Kd.R_slice g2
  obtain ⟨A5, c5, rfl⟩ := Kd.R_slice g5
  exact ⟨A2, c2, A5, c5, rfl⟩
theorem CB.drewed {w0 w : World} {B : Nat} {F : Nat → Prop} {cs : Array Value} {k : Int} {out : Value} {ys : List VT} (h : CB w0 B F cs k out ys w) : CB w0 B F cs k out ys w.drew := h.below ((Below.refl _ _).drew)
theorem CB.third {w0 W w1 : World} {B : Nat} {F : Nat → Prop} {cs : Array Value} {k : Int} {out : Value} {ys : List VT} (h : CB w0 B F cs k out ys W) (hg : W.grownBy w1 out.ownBlock) : w1.heap[w0.heap.size + 2]? = some (.cells #[.int .i64 k, .bool false, .slice none 0 0, .int .u64 0, .string ⟨#[]⟩, out] 26 (0, 0)) :=
  blk_grown h.b3 hg (fun e => by have := h.far _ e.symm; omega)
theorem CB.keeps {w0 wr W w1 : World} {B : Nat} {F : Nat → Prop} {cs : Array Value} {k : Int} {out : Value} {ys : List VT} (h : CB w0 B F cs k out ys W) (hg : W.grownBy w1 out.ownBlock) (hb : Below (w0.heap.size + 2) wr W) : Below (w0.heap.size + 2) wr w1 :=
  hb.grown hg (by have := h.size; omega) (fun j hj => by have := h.far j hj; omega)
theorem sc_cut {x : VT} (h : SC x) : SC ⟨x.f0, x.f1, x.f2, x.f3, x.f4.extract 0 60, x.f5⟩ := by
  obtain ⟨s, hc, hf⟩ := h
  by_cases h4 : x.f0 = 4
  · refine ⟨.str (x.f4.extract 0 60), ⟨?_, hc.kids, ?_, fun h1 _ => absurd h4 h1⟩, (by show (x.f4.extract 0 60).size ≤ 2147483647; rw [ByteArray.size_extract]; omega)⟩
    · have := hc.leaf
      exact ⟨fun e => this.int e, this.bits, this.kind, this.mag, this.many, this.pairs⟩
    · unfold scaOf; simp [h4]
  · by_cases h5 : x.f0 = 5
    · refine ⟨.bytes (x.f4.extract 0 60), ⟨?_, hc.kids, ?_, fun _ h2 => absurd h5 h2⟩, (by show (x.f4.extract 0 60).size ≤ 2147483647; rw [ByteArray.size_extract]; omega)⟩
      · have := hc.leaf
        exact ⟨fun e => this.int e, this.bits, this.kind, this.mag, this.many, this.pairs⟩
      · unfold scaOf; simp [h5]
    · have ht := hc.text h4 h5
      have : (⟨x.f0, x.f1, x.f2, x.f3, x.f4.extract 0 60, x.f5⟩ : VT) = x := by
        cases x
        dsimp only at *
        rw [ht]; rfl
      rw [this]
      exact ⟨s, hc, hf⟩
theorem cb_len {w0 w : World} {B : Nat} {F : Nat → Prop} {cs : Array Value} {k : Int} {A : Option Addr} {L M c : Nat} {ys : List VT} (h : CB w0 B F cs k (.slice A L c) ys (w.setCell ⟨w0.heap.size + 2, 5, none⟩ (.slice A L c))) (e : L = M) : CB w0 B F cs k (.slice A M c) ys (w.setCell ⟨w0.heap.size + 1 + 1, 5, none⟩ (.slice A M c)) := by subst e; exact h
theorem CB.final {w0 w : World} {B : Nat} {F : Nat → Prop} {cs : Array Value} {k : Int} {out : Value} {ys : List VT} (h : CB w0 B F cs k out ys w) (a b c d e f : Value) :
    kV.M ((((((w.setCell ⟨w0.heap.size + 1, 0, none⟩ a).setCell ⟨w0.heap.size + 1, 1, none⟩ b).setCell ⟨w0.heap.size + 1, 2, none⟩ c).setCell ⟨w0.heap.size + 1, 3, none⟩ d).setCell ⟨w0.heap.size + 1, 4, none⟩ e).setCell ⟨w0.heap.size + 1, 5, none⟩ f) B F ⟨k, false, [], 0, ⟨#[]⟩, ys⟩ [.int .i64 k, .bool false, .slice none 0 0, .int .u64 0, .string ⟨#[]⟩, out] ∧
    Below w0.heap.size w0 ((((((w.setCell ⟨w0.heap.size + 1, 0, none⟩ a).setCell ⟨w0.heap.size + 1, 1, none⟩ b).setCell ⟨w0.heap.size + 1, 2, none⟩ c).setCell ⟨w0.heap.size + 1, 3, none⟩ d).setCell ⟨w0.heap.size + 1, 4, none⟩ e).setCell ⟨w0.heap.size + 1, 5, none⟩ f) := by
  have hne : ∀ j, F j → j ≠ w0.heap.size + 1 := fun j hj => by rcases h.hF j hj with hj | hj <;> omega
  have hle : w0.heap.size ≤ w0.heap.size + 1 := Nat.le_succ _
  exact ⟨Kd.M_far (p := ⟨w0.heap.size + 1, 5, none⟩) (Kd.M_far (p := ⟨w0.heap.size + 1, 4, none⟩) (Kd.M_far (p := ⟨w0.heap.size + 1, 3, none⟩) (Kd.M_far (p := ⟨w0.heap.size + 1, 2, none⟩) (Kd.M_far (p := ⟨w0.heap.size + 1, 1, none⟩) (Kd.M_far (p := ⟨w0.heap.size + 1, 0, none⟩) h.done hne _) hne _) hne _) hne _) hne _) hne _,
    ((((((h.low.setCell (p := ⟨w0.heap.size + 1, 0, none⟩) hle _).setCell (p := ⟨w0.heap.size + 1, 1, none⟩) hle _).setCell (p := ⟨w0.heap.size + 1, 2, none⟩) hle _).setCell (p := ⟨w0.heap.size + 1, 3, none⟩) hle _).setCell (p := ⟨w0.heap.size + 1, 4, none⟩) hle _).setCell (p := ⟨w0.heap.size + 1, 5, none⟩) hle _)⟩
def KeyR (n B : Nat) (ok : Nat → Prop) (w : World) (e : Ending) (w' : World) : Prop := ∃ cs y, e = .returned (.agg (List.toArray cs)) ∧ kV.M w' B (fun j => ok j ∨ w.heap.size ≤ j) y cs ∧ CT n y ∧ HkT n y ∧ Below w.heap.size w w'
theorem keySca_end (n B : Nat) (ok : Nat → Prop) (x : VT) (cs : List Value) (w : World) {w' : World} {A2 A5 : Option Addr} {c2 c5 : Nat} (hM : kV.M w B ok x cs) (hS : SC x) (hcs : cs = [.int .i64 x.f0, .bool x.f1, .slice A2 x.f2.length c2, .int .u64 x.f3, .string x.f4, .slice A5 x.f5.length c5]) (hb : Below w.heap.size w w') :
    KeyR n B ok w (.returned (.agg #[.int .i64 x.f0, .bool x.f1, .slice A2 x.f2.length c2, .int .u64 x.f3, .string (x.f4.extract 0 60), .slice A5 x.f5.length c5])) w' := by
  have hM2 : kV.M w' B (fun j => ok j ∨ w.heap.size ≤ j) x cs := Kd.M_mono _ (fun j hj => Or.inl hj) (Kd.M_below hM hb)
  obtain ⟨v2, v5, e, g2, g5⟩ := k26_openM hM2
  rw [hcs] at e
  simp only [List.cons.injEq, and_true, true_and] at e
  obtain ⟨rfl, rfl⟩ := e
  exact ⟨_, ⟨x.f0, x.f1, x.f2, x.f3, x.f4.extract 0 60, x.f5⟩, rfl, k26_mkM w' B (fun j => ok j ∨ w.heap.size ≤ j) ⟨x.f0, x.f1, x.f2, x.f3, x.f4.extract 0 60, x.f5⟩ g2 g5, CT.sc (sc_cut hS) n, (sc_cut hS).hk n, hb⟩
theorem keySca_end2 (n B : Nat) (ok : Nat → Prop) (x : VT) (cs : List Value) (w : World) {w' : World} (hM : kV.M w B ok x cs) (hS : SC x) (hb : Below w.heap.size w w') : KeyR n B ok w (.returned (.agg (List.toArray cs))) w' :=
  ⟨_, x, rfl, Kd.M_mono _ (fun j hj => Or.inl hj) (Kd.M_below hM hb), CT.sc hS n, hS.hk n, hb⟩
attribute [local go_sem] max2_int min2_int max_two min_two max_three min_three max_four min_four
set_option maxRecDepth 100000 in
set_option maxHeartbeats 1000000 in
theorem keySca_c (n B : Nat) (ok : Nat → Prop) (x : VT) (cs : List Value) (w : World) (hM : kV.M w B ok x cs) (hS : SC x) : Calls Tryz.prog 52 #[.agg cs.toArray] w (KeyR n B ok w) := by
  obtain ⟨v2, v5, e, g2, g5⟩ := k26_openM hM
  obtain ⟨A2, c2, rfl⟩ := Kd.R_slice g2
  obtain ⟨A5, c5, rfl⟩ := Kd.R_slice g5
  subst e
  have hk : x.f0 < 6 := hS.kind.2
  have HK0 : Hid (((w.alloc (.cells #[.int .i64 x.f0, .bool x.f1, .slice A2 x.f2.length c2, .int .u64 x.f3, .string x.f4, .slice A5 x.f5.length c5] 26)).alloc (.cells zero6 26)).heap[w.heap.size]? = some (.cells #[.int .i64 x.f0, .bool x.f1, .slice A2 x.f2.length c2, .int .u64 x.f3, .string x.f4, .slice A5 x.f5.length c5] 26 (0, 0))) := Lib.hid (blk_alloc (blk_new _ _) _)
  have HM := Lib.hid hM
  have HSC := Lib.hid hS
  clear hM hS g2 g5
  go_enter Tryz.func52, Tryz.ntmps52
  go_wp2
  · refine bodyPost_ret (v := .agg #[.int .i64 x.f0, .bool x.f1, .slice A2 x.f2.length c2, .int .u64 x.f3, .string (x.f4.extract 0 60), .slice A5 x.f5.length c5]) (by simp [results, Tryz.results52, go_sem]) rfl ?_
    exact keySca_end n B ok x _ w HM.out HSC.out rfl (((Below.refl _ w).alloc (Nat.le_refl _) _).alloc (by simp) _)
  · refine bodyPost_ret (v := .agg #[.int .i64 x.f0, .bool x.f1, .slice A2 x.f2.length c2, .int .u64 x.f3, .string x.f4, .slice A5 x.f5.length c5]) (by simp [results, Tryz.results52, go_sem]) rfl ?_
    exact keySca_end2 n B ok x _ w HM.out HSC.out (((Below.refl _ w).alloc (Nat.le_refl _) _).alloc (by simp) _)
set_option maxRecDepth 100000 in
set_option maxHeartbeats 1000000 in
theorem keyBox_c (m B : Nat) (ok : Nat → Prop) (x : VT) (cs : List Value) (w : World) (hB : B ≤ w.heap.size) (hM : kV.M w B ok x cs) (hk : ¬ x.f0 < 6) (hn : x.f5.length ≤ 16) (hks : ∀ k ∈ x.f5, CT m k)
    (ih : ∀ (x : VT) (cs : List Value) (W : World) (ok : Nat → Prop), B ≤ W.heap.size → kV.M W B ok x cs → CT m x → Calls Tryz.prog 52 #[.agg cs.toArray] W (KeyR m B ok W)) : Calls Tryz.prog 52 #[.agg cs.toArray] w (KeyR (m + 1) B ok w) := by
  obtain ⟨v2, v5, e, g2, g5⟩ := k26_openM hM
  obtain ⟨A2, c2, rfl⟩ := Kd.R_slice g2
  obtain ⟨A5, c5, rfl⟩ := Kd.R_slice g5
  subst e
  obtain ⟨a0, a1, a2, a3, a4, xs⟩ := x
  dsimp only at *
  have HKS := Lib.hid hks
  have HKM := Lib.hid (fun i hi => kidM_at (Kd.R_bound g5) i hi)
  have HIH := Lib.hid ih
  obtain ⟨F, hF⟩ : ∃ F : Nat → Prop, F = fun j => (ok j ∧ j < w.heap.size) ∨ w.heap.size + 3 ≤ j := ⟨_, rfl⟩
  have hF1 : ∀ j, F j → Free w.heap.size j := by rw [hF]; rintro j (⟨_, h⟩ | h); exact Or.inl h; exact Or.inr h
  have hF2 : ∀ j, w.heap.size + 3 ≤ j → F j := by rw [hF]; intro j h; exact Or.inr h
  obtain ⟨W0, hW0⟩ : ∃ W, W = (((w.alloc (.cells #[.int .i64 a0, .bool a1, .slice A2 a2.length c2, .int .u64 a3, .string a4, .slice A5 xs.length c5] 26)).alloc (.cells zero6 26)).alloc (.cells #[.int .i64 7, .bool false, .slice none 0 0, .int .u64 0, .string ⟨#[]⟩, .slice none 0 0] 26)) := ⟨_, rfl⟩
  have HT0 : Hid (CB w B F #[.int .i64 a0, .bool a1, .slice A2 a2.length c2, .int .u64 a3, .string a4, .slice A5 xs.length c5] 7 (.slice none 0 0) [] W0) := by rw [hW0]; exact Lib.hid (CB.start w B F _ 7 hF1 hF2)
  have HFF := Lib.hid hF
  have HBn := Lib.hid hB
  clear hF hF1 hF2 hM g2 g5 hks ih hB
  go_enter Tryz.func52, Tryz.ntmps52
  go_wp2_with fail
  rw [← hW0]
  clear hW0
  go_loopw [4] (fun i wr => ∃ (j : Nat) (out : Value) (ys : List VT), j ≤ xs.length ∧ i = .int .i64 (j : Int) ∧ ys.length = j ∧ Hid (∀ y ∈ ys, CT m y ∧ HkT m y) ∧ Hid (CB w B F #[.int .i64 a0, .bool a1, .slice A2 a2.length c2, .int .u64 a3, .string a4, .slice A5 xs.length c5] 7 out ys wr)) (fun i _ => xs.length - (intOf i).toNat)
  case atStart => exact ⟨0, _, [], Nat.zero_le _, rfl, rfl, Lib.hid (fun y hy => by cases hy), HT0⟩
  case round =>
    clear HT0
    obtain ⟨j, out, ys, hj, rfl, hys, HQ, HT⟩ := hrel
    by_cases hlt : j < xs.length
    · obtain ⟨b, P2, p2, P5, p5, rfl, hb, k0, k1, k2, k3, k4, k5, hV⟩ := HKM.out j hlt
      have hB := HT.out.low
      have x0 := (hB.cell (p := ⟨b, j * 6, none⟩) hb).trans k0
      have x1 := (hB.cell (p := ⟨b, j * 6 + 1, none⟩) hb).trans k1
      have x2 := (hB.cell (p := ⟨b, j * 6 + 2, none⟩) hb).trans k2
      have x3 := (hB.cell (p := ⟨b, j * 6 + 3, none⟩) hb).trans k3
      have x4 := (hB.cell (p := ⟨b, j * 6 + 4, none⟩) hb).trans k4
      have x5 := (hB.cell (p := ⟨b, j * 6 + 5, none⟩) hb).trans k5
      have z5 := (cells6 HT.out.b1).2.2.2.2.2
      have y5 := (cells6 HT.out.b3).2.2.2.2.2
      have hsz3 := HT.out.size
      have hsz : w.heap.size + 2 ≤ wr.heap.size := by omega
      have hBn := HBn.out
      have hok : ∀ q, (ok q ∧ q < w.heap.size) → F q ∧ q < w.heap.size := fun q hq => ⟨by rw [HFF.out]; exact Or.inl hq, hq.2⟩
      have HC : Hid (Calls Tryz.prog 52 #[.agg #[.int .i64 xs[j].f0, .bool xs[j].f1, .slice P2 xs[j].f2.length p2, .int .u64 xs[j].f3, .string xs[j].f4, .slice P5 xs[j].f5.length p5]] wr.drew (KeyR m B (fun q => ok q ∧ q < w.heap.size) wr.drew)) := Lib.hid (HIH.out _ [.int .i64 xs[j].f0, .bool xs[j].f1, .slice P2 xs[j].f2.length p2, .int .u64 xs[j].f3, .string xs[j].f4, .slice P5 xs[j].f5.length p5] wr.drew _ (Nat.le_trans hBn hB.size) (Kd.M_mono _ (fun q hq => ⟨hq.1, hq.2.2.1⟩) (Kd.M_below hV hB.drew)) (HKS.out _ (List.getElem_mem hlt)))
      have HBr : Hid (Below (w.heap.size + 2) wr wr) := Lib.hid (Below.refl _ _)
      have HS : Hid (∀ W, Below (w.heap.size + 2) wr W → (W.cell? ⟨b, j * 6, none⟩ = some (.int .i64 xs[j].f0) ∧ W.cell? ⟨b, j * 6 + 1, none⟩ = some (.bool xs[j].f1) ∧ W.cell? ⟨b, j * 6 + 2, none⟩ = some (.slice P2 xs[j].f2.length p2) ∧ W.cell? ⟨b, j * 6 + 3, none⟩ = some (.int .u64 xs[j].f3) ∧ W.cell? ⟨b, j * 6 + 4, none⟩ = some (.string xs[j].f4) ∧ W.cell? ⟨b, j * 6 + 5, none⟩ = some (.slice P5 xs[j].f5.length p5)) ∧ W.cell? ⟨w.heap.size, 5, none⟩ = some (.slice (some ⟨b, 0, none⟩) xs.length c5)) := Lib.hid fun W hW => by
        have hb2 : b < w.heap.size + 2 := by omega
        exact ⟨⟨(hW.cell (p := ⟨b, j * 6, none⟩) hb2).trans x0, (hW.cell (p := ⟨b, j * 6 + 1, none⟩) hb2).trans x1, (hW.cell (p := ⟨b, j * 6 + 2, none⟩) hb2).trans x2, (hW.cell (p := ⟨b, j * 6 + 3, none⟩) hb2).trans x3, (hW.cell (p := ⟨b, j * 6 + 4, none⟩) hb2).trans x4, (hW.cell (p := ⟨b, j * 6 + 5, none⟩) hb2).trans x5⟩, (hW.cell (p := ⟨w.heap.size, 5, none⟩) (by show w.heap.size < _; omega)).trans z5⟩
      clear k0 k1 k2 k3 k4 k5 hV hB x0 x1 x2 x3 x4 x5
      go_upto_region 8 with fail
      clear z5
      refine wp_region_held_drew (S := fun W => (W.cell? ⟨b, j * 6, none⟩ = some (.int .i64 xs[j].f0) ∧ W.cell? ⟨b, j * 6 + 1, none⟩ = some (.bool xs[j].f1) ∧ W.cell? ⟨b, j * 6 + 2, none⟩ = some (.slice P2 xs[j].f2.length p2) ∧ W.cell? ⟨b, j * 6 + 3, none⟩ = some (.int .u64 xs[j].f3) ∧ W.cell? ⟨b, j * 6 + 4, none⟩ = some (.string xs[j].f4) ∧ W.cell? ⟨b, j * 6 + 5, none⟩ = some (.slice P5 xs[j].f5.length p5)) ∧ W.cell? ⟨w.heap.size, 5, none⟩ = some (.slice (some ⟨b, 0, none⟩) xs.length c5)) (by kernel_rfl) (HS.out _ HBr.out.drew) (fun hHeld => ?_)
      refine wpAnyH_take (i := 0) (oi := _) (v := ?_) rfl (by kernel_rfl) (by kernel_rfl) (by kernel_rfl) (fun _ _ _ h => h) (Or.inl ⟨by rfl, ?_⟩) (by assumption) ?_; rotate_left 1; · (intro w hSw; (try dsimp only at hSw); go_simp; first | done | with_reducible rfl)
      try simp only [Act.put, List.setIfInBounds_toArray, List.set_cons_zero, List.set_cons_succ, List.getElem_toArray, List.getElem_cons_zero, List.getElem_cons_succ]
      refine wpAnyH_take (i := 2) (oi := _) (v := ?_) rfl (by kernel_rfl) (by kernel_rfl) (by kernel_rfl) (fun _ _ _ h => h) (Or.inl ⟨by rfl, ?_⟩) (by assumption) ?_; rotate_left 1; · (intro w hSw; (try dsimp only at hSw); go_simp; first | done | with_reducible rfl)
      try simp only [Act.put, List.setIfInBounds_toArray, List.set_cons_zero, List.set_cons_succ, List.getElem_toArray, List.getElem_cons_zero, List.getElem_cons_succ]
      refine wpAnyH_take (i := 3) (oi := _) (v := ?_) rfl (by kernel_rfl) (by kernel_rfl) (by kernel_rfl) (fun _ _ _ h => h) (Or.inl ⟨by rfl, ?_⟩) (by assumption) ?_; rotate_left 1; · (intro w hSw; (try dsimp only at hSw); go_simp; first | done | with_reducible rfl)
      try simp only [Act.put, List.setIfInBounds_toArray, List.set_cons_zero, List.set_cons_succ, List.getElem_toArray, List.getElem_cons_zero, List.getElem_cons_succ]
      refine wpAnyH_take (i := 4) (oi := _) (v := ?_) rfl (by kernel_rfl) (by kernel_rfl) (by kernel_rfl) (fun _ _ _ h => h) (Or.inl ⟨by rfl, ?_⟩) (by assumption) ?_; rotate_left 1; · (intro w hSw; (try dsimp only at hSw); go_simp; first | done | with_reducible rfl)
      try simp only [Act.put, List.setIfInBounds_toArray, List.set_cons_zero, List.set_cons_succ, List.getElem_toArray, List.getElem_cons_zero, List.getElem_cons_succ]
      refine wpAnyH_take (i := 5) (oi := _) (v := ?_) rfl (by kernel_rfl) (by kernel_rfl) (by kernel_rfl) (fun _ _ _ h => h) (Or.inl ⟨by rfl, ?_⟩) (by assumption) ?_; rotate_left 1; · (intro w hSw; (try dsimp only at hSw); go_simp; first | done | with_reducible rfl)
      try simp only [Act.put, List.setIfInBounds_toArray, List.set_cons_zero, List.set_cons_succ, List.getElem_toArray, List.getElem_cons_zero, List.getElem_cons_succ]
      refine wpAnyH_take (i := 6) (oi := _) (v := ?_) rfl (by kernel_rfl) (by kernel_rfl) (by kernel_rfl) (fun _ _ _ h => h) (Or.inl ⟨by rfl, ?_⟩) (by assumption) ?_; rotate_left 1; · (intro w hSw; (try dsimp only at hSw); go_simp; first | done | with_reducible rfl)
      try simp only [Act.put, List.setIfInBounds_toArray, List.set_cons_zero, List.set_cons_succ, List.getElem_toArray, List.getElem_cons_zero, List.getElem_cons_succ]
      refine wpAnyH_ready (rs := [1, 7]) (by kernel_rfl) (by simp) ?_
      refine AllReadyH.cons (o := _) rfl (fun K hK => ?_) (AllReadyH.cons (o := _) rfl (fun K hK => ?_) AllReadyH.nil)
      · go_simp
        refine hK.out _ _ (HS.out _ HBr.out.drew) (fun hHeld => ?_)
        clear hK K
        try simp only [Act.put, List.setIfInBounds_toArray, List.set_cons_zero, List.set_cons_succ, List.getElem_toArray, List.getElem_cons_zero, List.getElem_cons_succ]
        refine wpAnyH_ready (rs := [7]) (by kernel_rfl) (by simp) ?_
        refine AllReadyH.cons (o := _) rfl (fun K hK => ?_) AllReadyH.nil
        go_simp; go_at_call 52; (with_reducible refine HC.out.mono ?_); rintro e w1 ⟨cs1, y, rfl, hM, hct, hhk, hb1⟩; obtain ⟨Q2, q2, Q5, q5, rfl⟩ := m_shape hM; have HV := Lib.hid (HT.out.drewed.app hb1 hM hok hBn); have HCK := Lib.hid (And.intro hct hhk); have HB1 := Lib.hid (HBr.out.drew.trans (hb1.mono hsz)); have t5 := (cells6 HV.out.2.2.2.2.2.2.b3).2.2.2.2.2; have tA : ∀ o, (w1.alloc o).cell? ⟨w.heap.size + 2, 5, none⟩ = some out := fun o => (cells6 (blk_alloc HV.out.2.2.2.2.2.2.b3 o)).2.2.2.2.2; clear hM hct hhk hb1
        refine hK.out _ _ (HS.out _ HB1.out) (fun hHeld => ?_)
        clear hK K
        try simp only [Act.put, List.setIfInBounds_toArray, List.set_cons_zero, List.set_cons_succ, List.getElem_toArray, List.getElem_cons_zero, List.getElem_cons_succ]
        refine wpAnyH_ready (rs := [8]) (by kernel_rfl) (by simp) ?_
        refine AllReadyH.cons (o := _) rfl (fun K hK => ?_) AllReadyH.nil
        go_simp
        refine hK.out _ _ (HS.out _ (HB1.out.alloc (Nat.le_trans hsz HB1.out.size) _)) (fun hHeld => ?_)
        clear hK K
        try simp only [Act.put, List.setIfInBounds_toArray, List.set_cons_zero, List.set_cons_succ, List.getElem_toArray, List.getElem_cons_zero, List.getElem_cons_succ]
        refine wpAnyH_ready (rs := [9]) (by kernel_rfl) (by simp) ?_
        refine AllReadyH.cons (o := _) rfl (fun K hK => ?_) AllReadyH.nil
        refine Kd.R_append_step kV (w0 := w1) B rfl (.tmp 26) (.tmp 33) 24 26 (.agg zero6) 88 rfl Tryz.underlying24 vInfo rfl (by decide) (by omega) out ys y _ F _ rfl rfl HV.out.1 HV.out.2.1 HV.out.2.2.1 HV.out.2.2.2.1 HV.out.2.2.2.2.1 HV.out.2.2.2.2.2.1 (by omega) ?_; intro v1 w2 hr2 hb2 hg hat; obtain ⟨Av, cv, rfl⟩ := Kd.R_slice hr2; have HP := Lib.hid (HV.out.2.2.2.2.2.2.push hr2 hg hat); have hz2 := HV.out.2.2.2.2.2.2.third hg; have HB2 := Lib.hid (HV.out.2.2.2.2.2.2.keeps hg HB1.out); have u5 := (cells6 hz2).2.2.2.2.2; have uz := blk_free hz2; clear hr2 hb2 hg hat hz2
        refine hK.out _ _ (HS.out _ HB2.out) (fun hHeld => ?_)
        clear hK K
        try simp only [Act.put, List.setIfInBounds_toArray, List.set_cons_zero, List.set_cons_succ, List.getElem_toArray, List.getElem_cons_zero, List.getElem_cons_succ]
        refine wpAnyH_take (i := 10) (oi := _) (v := ?_) rfl (by kernel_rfl) (by kernel_rfl) (by kernel_rfl) (fun _ _ _ h => h) (Or.inl ⟨by rfl, ?_⟩) (by assumption) ?_; rotate_left 1; · (intro w hSw; (try dsimp only at hSw); go_simp; first | done | with_reducible rfl)
        try simp only [Act.put, List.setIfInBounds_toArray, List.set_cons_zero, List.set_cons_succ, List.getElem_toArray, List.getElem_cons_zero, List.getElem_cons_succ]
        refine wpAnyH_ready (rs := [11]) (by kernel_rfl) (by simp) ?_
        refine AllReadyH.cons (o := _) rfl (fun K hK => ?_) AllReadyH.nil
        go_simp
        refine hK.out _ _ (HS.out _ (HB2.out.setCell (p := ⟨w.heap.size + 2, 5, none⟩) (Nat.le_refl _) _)) (fun hHeld => ?_)
        clear hK K
        try simp only [Act.put, List.setIfInBounds_toArray, List.set_cons_zero, List.set_cons_succ, List.getElem_toArray, List.getElem_cons_zero, List.getElem_cons_succ]
        refine wpAnyH_done (by kernel_rfl) ?_ _
        go_wp2
        go_roundw
        case rel => exact ⟨j + 1, _, ys ++ [y], by omega, by go_num, by simp [hys], Lib.hid (fun q hq => by rcases List.mem_append.1 hq with h | h; exact HQ.out q h; rw [List.mem_singleton] at h; rw [h]; exact HCK.out), Lib.hid (cb_len HP.out (by simp [hys]))⟩
        case measure => simp [intOf]; omega
      · go_simp; go_at_call 52; (with_reducible refine HC.out.mono ?_); rintro e w1 ⟨cs1, y, rfl, hM, hct, hhk, hb1⟩; obtain ⟨Q2, q2, Q5, q5, rfl⟩ := m_shape hM; have HV := Lib.hid (HT.out.drewed.app hb1 hM hok hBn); have HCK := Lib.hid (And.intro hct hhk); have HB1 := Lib.hid (HBr.out.drew.trans (hb1.mono hsz)); have t5 := (cells6 HV.out.2.2.2.2.2.2.b3).2.2.2.2.2; have tA : ∀ o, (w1.alloc o).cell? ⟨w.heap.size + 2, 5, none⟩ = some out := fun o => (cells6 (blk_alloc HV.out.2.2.2.2.2.2.b3 o)).2.2.2.2.2; clear hM hct hhk hb1
        refine hK.out _ _ (HS.out _ HB1.out) (fun hHeld => ?_)
        clear hK K
        try simp only [Act.put, List.setIfInBounds_toArray, List.set_cons_zero, List.set_cons_succ, List.getElem_toArray, List.getElem_cons_zero, List.getElem_cons_succ]
        refine wpAnyH_ready (rs := [1, 8]) (by kernel_rfl) (by simp) ?_
        refine AllReadyH.cons (o := _) rfl (fun K hK => ?_) (AllReadyH.cons (o := _) rfl (fun K hK => ?_) AllReadyH.nil)
        · go_simp
          refine hK.out _ _ (HS.out _ HB1.out) (fun hHeld => ?_)
          clear hK K
          try simp only [Act.put, List.setIfInBounds_toArray, List.set_cons_zero, List.set_cons_succ, List.getElem_toArray, List.getElem_cons_zero, List.getElem_cons_succ]
          refine wpAnyH_ready (rs := [8]) (by kernel_rfl) (by simp) ?_
          refine AllReadyH.cons (o := _) rfl (fun K hK => ?_) AllReadyH.nil
          go_simp
          refine hK.out _ _ (HS.out _ (HB1.out.alloc (Nat.le_trans hsz HB1.out.size) _)) (fun hHeld => ?_)
          clear hK K
          try simp only [Act.put, List.setIfInBounds_toArray, List.set_cons_zero, List.set_cons_succ, List.getElem_toArray, List.getElem_cons_zero, List.getElem_cons_succ]
          refine wpAnyH_ready (rs := [9]) (by kernel_rfl) (by simp) ?_
          refine AllReadyH.cons (o := _) rfl (fun K hK => ?_) AllReadyH.nil
          refine Kd.R_append_step kV (w0 := w1) B rfl (.tmp 26) (.tmp 33) 24 26 (.agg zero6) 88 rfl Tryz.underlying24 vInfo rfl (by decide) (by omega) out ys y _ F _ rfl rfl HV.out.1 HV.out.2.1 HV.out.2.2.1 HV.out.2.2.2.1 HV.out.2.2.2.2.1 HV.out.2.2.2.2.2.1 (by omega) ?_; intro v1 w2 hr2 hb2 hg hat; obtain ⟨Av, cv, rfl⟩ := Kd.R_slice hr2; have HP := Lib.hid (HV.out.2.2.2.2.2.2.push hr2 hg hat); have hz2 := HV.out.2.2.2.2.2.2.third hg; have HB2 := Lib.hid (HV.out.2.2.2.2.2.2.keeps hg HB1.out); have u5 := (cells6 hz2).2.2.2.2.2; have uz := blk_free hz2; clear hr2 hb2 hg hat hz2
          refine hK.out _ _ (HS.out _ HB2.out) (fun hHeld => ?_)
          clear hK K
          try simp only [Act.put, List.setIfInBounds_toArray, List.set_cons_zero, List.set_cons_succ, List.getElem_toArray, List.getElem_cons_zero, List.getElem_cons_succ]
          refine wpAnyH_take (i := 10) (oi := _) (v := ?_) rfl (by kernel_rfl) (by kernel_rfl) (by kernel_rfl) (fun _ _ _ h => h) (Or.inl ⟨by rfl, ?_⟩) (by assumption) ?_; rotate_left 1; · (intro w hSw; (try dsimp only at hSw); go_simp; first | done | with_reducible rfl)
          try simp only [Act.put, List.setIfInBounds_toArray, List.set_cons_zero, List.set_cons_succ, List.getElem_toArray, List.getElem_cons_zero, List.getElem_cons_succ]
          refine wpAnyH_ready (rs := [11]) (by kernel_rfl) (by simp) ?_
          refine AllReadyH.cons (o := _) rfl (fun K hK => ?_) AllReadyH.nil
          go_simp
          refine hK.out _ _ (HS.out _ (HB2.out.setCell (p := ⟨w.heap.size + 2, 5, none⟩) (Nat.le_refl _) _)) (fun hHeld => ?_)
          clear hK K
          try simp only [Act.put, List.setIfInBounds_toArray, List.set_cons_zero, List.set_cons_succ, List.getElem_toArray, List.getElem_cons_zero, List.getElem_cons_succ]
          refine wpAnyH_done (by kernel_rfl) ?_ _
          go_wp2
          go_roundw
          case rel => exact ⟨j + 1, _, ys ++ [y], by omega, by go_num, by simp [hys], Lib.hid (fun q hq => by rcases List.mem_append.1 hq with h | h; exact HQ.out q h; rw [List.mem_singleton] at h; rw [h]; exact HCK.out), Lib.hid (cb_len HP.out (by simp [hys]))⟩
          case measure => simp [intOf]; omega
        · go_simp
          refine hK.out _ _ (HS.out _ (HB1.out.alloc (Nat.le_trans hsz HB1.out.size) _)) (fun hHeld => ?_)
          clear hK K
          try simp only [Act.put, List.setIfInBounds_toArray, List.set_cons_zero, List.set_cons_succ, List.getElem_toArray, List.getElem_cons_zero, List.getElem_cons_succ]
          refine wpAnyH_ready (rs := [1]) (by kernel_rfl) (by simp) ?_
          refine AllReadyH.cons (o := _) rfl (fun K hK => ?_) AllReadyH.nil
          go_simp
          refine hK.out _ _ (HS.out _ (HB1.out.alloc (Nat.le_trans hsz HB1.out.size) _)) (fun hHeld => ?_)
          clear hK K
          try simp only [Act.put, List.setIfInBounds_toArray, List.set_cons_zero, List.set_cons_succ, List.getElem_toArray, List.getElem_cons_zero, List.getElem_cons_succ]
          refine wpAnyH_ready (rs := [9]) (by kernel_rfl) (by simp) ?_
          refine AllReadyH.cons (o := _) rfl (fun K hK => ?_) AllReadyH.nil
          refine Kd.R_append_step kV (w0 := w1) B rfl (.tmp 26) (.tmp 33) 24 26 (.agg zero6) 88 rfl Tryz.underlying24 vInfo rfl (by decide) (by omega) out ys y _ F _ rfl rfl HV.out.1 HV.out.2.1 HV.out.2.2.1 HV.out.2.2.2.1 HV.out.2.2.2.2.1 HV.out.2.2.2.2.2.1 (by omega) ?_; intro v1 w2 hr2 hb2 hg hat; obtain ⟨Av, cv, rfl⟩ := Kd.R_slice hr2; have HP := Lib.hid (HV.out.2.2.2.2.2.2.push hr2 hg hat); have hz2 := HV.out.2.2.2.2.2.2.third hg; have HB2 := Lib.hid (HV.out.2.2.2.2.2.2.keeps hg HB1.out); have u5 := (cells6 hz2).2.2.2.2.2; have uz := blk_free hz2; clear hr2 hb2 hg hat hz2
          refine hK.out _ _ (HS.out _ HB2.out) (fun hHeld => ?_)
          clear hK K
          try simp only [Act.put, List.setIfInBounds_toArray, List.set_cons_zero, List.set_cons_succ, List.getElem_toArray, List.getElem_cons_zero, List.getElem_cons_succ]
          refine wpAnyH_take (i := 10) (oi := _) (v := ?_) rfl (by kernel_rfl) (by kernel_rfl) (by kernel_rfl) (fun _ _ _ h => h) (Or.inl ⟨by rfl, ?_⟩) (by assumption) ?_; rotate_left 1; · (intro w hSw; (try dsimp only at hSw); go_simp; first | done | with_reducible rfl)
          try simp only [Act.put, List.setIfInBounds_toArray, List.set_cons_zero, List.set_cons_succ, List.getElem_toArray, List.getElem_cons_zero, List.getElem_cons_succ]
          refine wpAnyH_ready (rs := [11]) (by kernel_rfl) (by simp) ?_
          refine AllReadyH.cons (o := _) rfl (fun K hK => ?_) AllReadyH.nil
          go_simp
          refine hK.out _ _ (HS.out _ (HB2.out.setCell (p := ⟨w.heap.size + 2, 5, none⟩) (Nat.le_refl _) _)) (fun hHeld => ?_)
          clear hK K
          try simp only [Act.put, List.setIfInBounds_toArray, List.set_cons_zero, List.set_cons_succ, List.getElem_toArray, List.getElem_cons_zero, List.getElem_cons_succ]
          refine wpAnyH_done (by kernel_rfl) ?_ _
          go_wp2
          go_roundw
          case rel => exact ⟨j + 1, _, ys ++ [y], by omega, by go_num, by simp [hys], Lib.hid (fun q hq => by rcases List.mem_append.1 hq with h | h; exact HQ.out q h; rw [List.mem_singleton] at h; rw [h]; exact HCK.out), Lib.hid (cb_len HP.out (by simp [hys]))⟩
          case measure => simp [intOf]; omega
    · have hjn : j = xs.length := by omega
      obtain ⟨Ao, Lo, co, rfl⟩ : ∃ A L c, out = .slice A L c := by obtain ⟨A, c, e⟩ := Kd.R_slice HT.out.row; exact ⟨A, _, c, e⟩
      obtain ⟨z0, z1, z2, z3, z4, z5⟩ := cells6 HT.out.b1
      obtain ⟨y0, y1, y2, y3, y4, y5⟩ := cells6 HT.out.b2
      obtain ⟨x0, x1, x2, x3, x4, x5⟩ := cells6 HT.out.b3
      have yz := blk_free HT.out.b2
      go_wp2
      refine bodyPost_ret (v := .agg #[.int .i64 7, .bool false, .slice none 0 0, .int .u64 0, .string ⟨#[]⟩, .slice Ao Lo co]) (by simp [results, Tryz.results52, go_sem, y0, y1, y2, y3, y4, y5]) rfl ?_
      obtain ⟨hM, hb⟩ := HT.out.final (.int .i64 7) (.bool false) (.slice none 0 0) (.int .u64 0) (.string ⟨#[]⟩) (.slice Ao Lo co)
      refine ⟨_, ⟨7, false, [], 0, ⟨#[]⟩, ys⟩, rfl, Kd.M_mono _ (fun q hq => ?_) hM, Or.inr ⟨⟨rfl, rfl, rfl, rfl⟩, (by show ys.length ≤ 16; omega), fun q hq => (HQ.out q hq).1, Or.inr (Or.inl rfl)⟩, Or.inr ⟨rfl, fun q hq => (HQ.out q hq).2⟩, hb⟩
      rw [HFF.out] at hq
      rcases hq with hq | hq
      · exact Or.inl hq.1
      · exact Or.inr (by omega)
theorem key_c : ∀ (n B : Nat) (ok : Nat → Prop) (x : VT) (cs : List Value) (w : World), B ≤ w.heap.size → kV.M w B ok x cs → CT n x → Calls Tryz.prog 52 #[.agg cs.toArray] w (KeyR n B ok w)
  | n, B, ok, x, cs, w, hB, hM, h => by
    by_cases hk : x.f0 < 6
    · exact keySca_c n B ok x cs w hM (h.isSC hk)
    · obtain ⟨m, rfl, _, hl, hks, _⟩ := h.isBox hk
      exact keyBox_c m B ok x cs w hB hM hk hl hks fun x cs W ok hB hM hx => key_c m B ok x cs W hB hM hx
  termination_by n => n
end Go.Proofs.YtkplnbjgkhmbcaaGreatDoor
namespace Go.Proofs.YtkplnbjgkhmbcaaGreatDoor
open Go.RowKit Go.Shelf Go.Proofs.YtkplnbjgkhmbcaaGreatDoorW.PrintWords Go.Proofs.YtkplnbjgkhmbcaaGreatDoorW.PrintLast Go.Proofs.YtkplnbjgkhmbcaaGreatDoorW.PrintMore Go.Proofs.YtkplnbjgkhmbcaaGreatDoor.PFnCompare Go.Proofs.YtkplnbjgkhmbcaaGreatDoor.PCmp Go.Proofs.YtkplnbjgkhmbcaaGreatDoor.PbytesOf Go.Proofs.YtkplnbjgkhmbcaaGreatDoor.Pcmp
set_option linter.unusedVariables false
set_option linter.unusedSimpArgs false
attribute [local go_sem] max2_int min2_int max_two min_two max_three min_three max_four min_four
set_option maxRecDepth 100000 in
set_option maxHeartbeats 1000000 in
theorem cleanIntD_c (d : Int) (hd : ¬ d ≤ 0) (x : VT) (v : Value) (w : World) (h : RR w v x) (hr : Raw x) (hk : (wrap64 (x.f0.tmod 10 + 10)).tmod 10 = 2) : Calls Tryz.prog 9 #[v, .int .i64 d] w (CleanR w) := by
  obtain ⟨A2, c2, A5, n5, c5, rfl, l2, g2⟩ := h
  have hsl0 := c_sl g2 l2
  have HT := Lib.hid (sl_take hsl0 40)
  have hlen : (x.f2.take 40).length ≤ 40 := by rw [List.length_take]; omega
  obtain ⟨i5, hi5, hz5⟩ := Option.map_eq_some_iff.1 byteInfo
  simp only [Prod.mk.injEq] at hz5
  obtain ⟨_, hs5, _⟩ := hz5
  have hsl := fun W => (print_take_int (P := Tryz.prog) (k := .u8) 22 5 Tryz.underlying22 hi5 hs5 A2 c2 x.f2 (mn x.f2.length 40) (by unfold mn; split <;> omega) (by unfold mn; split <;> omega) l2).1 W
  have e1 : (x.f2.take (mn x.f2.length 40).toNat) = x.f2.take 40 := by
    unfold mn
    split
    · rfl
    · rw [Int.toNat_natCast, List.take_length, List.take_of_length_le (by omega)]
  rw [e1] at hsl
  have HBy : Hid (Bytes (x.f2.take 40)) := Lib.hid fun z hz => hr.mag z (List.mem_of_mem_take hz)
  clear g2 l2 hi5 hs5 hsl0 hr
  obtain ⟨m2, hm2⟩ : ∃ m2, m2 = x.f2.take 40 := ⟨_, rfl⟩
  rw [← hm2] at hsl HT hlen HBy
  clear hm2 e1
  unfold mn at hsl
  obtain ⟨n, HN⟩ : ∃ n, Hid (n = (x.f1 && decide (0 < (cutL m2).length))) := ⟨_, rfl⟩
  have HO : Hid (∀ w', Below w.heap.size w w' → Calls Tryz.prog 24 #[.bool x.f1, .slice A2 m2.length c2] w' fun e w'' => ∃ A1 c1, e = .returned (.agg #[.bool n, .slice A1 (cutL m2).length c1]) ∧ Sl .u8 w'.heap.size w'' (.slice A1 (cutL m2).length c1) (cutL m2) ∧ Below w'.heap.size w' w'') := by
    intro w' hb
    refine (of_c x.f1 _ _ _ _ (HT.out.below hb) (by omega)).mono ?_
    rintro e w1 ⟨v1, rfl, ⟨s1, rfl, hs1⟩, hb1⟩
    obtain ⟨A1, c1, rfl, _⟩ := hs1.c
    exact ⟨A1, c1, by rw [HN.out], hs1, hb1⟩
  have HGd : Hid (Good n (cutL m2)) := by rw [HN.out]; exact Lib.hid (good_of x.f1 m2 HBy.out (by omega))
  have hcl := cutL_length m2
  obtain ⟨l3, HL3⟩ : ∃ l3, Hid (l3 = cutL m2) := ⟨_, rfl⟩
  rw [← HL3.out] at HO hcl HGd
  have HI : Hid (∀ W A1 c1, Sl .u8 0 W (.slice A1 l3.length c1) l3 → Calls Tryz.prog 23 #[.agg #[.bool n, .slice A1 l3.length c1]] W fun e w' => ∃ A3 c3 A5 c5, e = .returned (.agg #[.int .i64 2, .bool n, .slice A3 l3.length c3, .int .u64 0, .string ⟨#[]⟩, .slice A5 0 c5]) ∧ kV.M w' W.heap.size (fun k => W.heap.size ≤ k) ⟨2, n, l3, 0, ⟨#[]⟩, []⟩ [.int .i64 2, .bool n, .slice A3 l3.length c3, .int .u64 0, .string ⟨#[]⟩, .slice A5 0 c5] ∧ Below W.heap.size W w') := Lib.hid fun W A1 c1 h => intVal_c n A1 c1 l3 W h (by omega)
  obtain ⟨W0, hW0⟩ : ∃ W, W = (w.alloc (.cells #[.int .i64 x.f0, .bool x.f1, .slice A2 x.f2.length c2, .int .u64 x.f3, .string x.f4, .slice A5 n5 c5] 26)).alloc (.cells #[.int .i64 0, .bool false, .slice none 0 0, .int .u64 0, .string ⟨#[]⟩, .slice none 0 0] 26) := ⟨_, rfl⟩
  have HB0 : Hid (Below w.heap.size w W0) := by rw [hW0]; exact Lib.hid (((Below.refl _ w).alloc (Nat.le_refl _) _).alloc (by simp) _)
  have HX0 : Hid (W0.heap[w.heap.size]? = some (.cells #[.int .i64 x.f0, .bool x.f1, .slice A2 x.f2.length c2, .int .u64 x.f3, .string x.f4, .slice A5 n5 c5] 26 (0, 0))) := by rw [hW0]; exact Lib.hid (blk_alloc (blk_new _ _) _)
  have HK0 : Hid (W0.heap[w.heap.size + 1]? = some (.cells #[.int .i64 0, .bool false, .slice none 0 0, .int .u64 0, .string ⟨#[]⟩, .slice none 0 0] 26 (0, 0))) := by rw [hW0]; exact Lib.hid (by simpa using blk_new (w.alloc _) _)
  all_goals
    by_cases hlt : (40 : Int) < x.f2.length
    all_goals
      first | rw [if_pos hlt] at hsl | rw [if_neg hlt] at hsl
      go_enter Tryz.func9, Tryz.ntmps9
      go_upto_region 8 with fail
      rw [← hW0]
      clear hW0
      obtain ⟨z0, z1, z2, z3, z4, z5⟩ := cells6 HX0.out
      clear z0 z3 z4 z5
      go_region_held3 (fun W => W.cell? ⟨w.heap.size, 1, none⟩ = some (.bool x.f1) ∧ W.cell? ⟨w.heap.size, 2, none⟩ = some (.slice A2 x.f2.length c2)) (first | (with_reducible exact ⟨(far6 w.heap.size 1 _ _ _ _ _ _ _).trans q1, (far6 w.heap.size 2 _ _ _ _ _ _ _).trans q2⟩) | (with_reducible exact ⟨q1, q2⟩) | (with_reducible exact ⟨y1, y2⟩) | (with_reducible exact ⟨z1, z2⟩) | exact ⟨z1, z2⟩) (first
        | (go_at_call 24; (with_reducible refine (HO.out _ (by first | (with_reducible exact HB0.out) | (with_reducible exact HB0.out.drew))).mono ?_); rintro e w1 ⟨A1, c1, rfl, hs1, hb1⟩; have HS1 := Lib.hid hs1; have HB1 := Lib.hid hb1; have y1 := (hb1.cell (p := ⟨w.heap.size, 1, none⟩) (lt_blk HX0.out)).trans z1; have y2 := (hb1.cell (p := ⟨w.heap.size, 2, none⟩) (lt_blk HX0.out)).trans z2; clear hs1 hb1)
        | (go_at_call 23; (with_reducible refine (HI.out _ _ _ (HS1.out.mono (Nat.zero_le _))).mono ?_); rintro e w2 ⟨A3, c3, A6, c6, rfl, hM, hb2⟩; have HM := Lib.hid hM; have HB2 := Lib.hid hb2; have q1 := (hb2.cell (p := ⟨w.heap.size, 1, none⟩) (Nat.lt_of_lt_of_le (lt_blk HX0.out) HB1.out.size)).trans y1; have q2 := (hb2.cell (p := ⟨w.heap.size, 2, none⟩) (Nat.lt_of_lt_of_le (lt_blk HX0.out) HB1.out.size)).trans y2; obtain ⟨x0, x1, x2, x3, x4, x5⟩ := cells6 (blk_below ((HB1.out.block _ (lt_blk HK0.out)).trans HK0.out) hb2); have hfz := fun o => blk_free (blk_below ((HB1.out.block _ (lt_blk HK0.out)).trans HK0.out) hb2) o; clear hM hb2))
  all_goals go_wp2
  all_goals refine bodyPost_ret (v := .agg #[.int .i64 2, .bool n, .slice A3 l3.length c3, .int .u64 0, .string ⟨#[]⟩, .slice A6 0 c6]) (by simp [results, Tryz.results9, go_sem, x0, x1, x2, x3, x4, x5]) rfl ?_
  all_goals
    have h01 := lt_blk HK0.out
    have h02 := HB0.out.size
    have h12 : W0.heap.size ≤ w1.heap.size := HB1.out.size
    have hne : ∀ k, w1.heap.size ≤ k → k ≠ w.heap.size + 1 := fun k hk => by omega
    have hle : w.heap.size ≤ w.heap.size + 1 := Nat.le_succ _
    have hb1 : Below w.heap.size w w1 := by first | exact HB0.out.trans (HB1.out.mono h02) | exact HB0.out.drew.trans (HB1.out.mono h02)
    refine ⟨_, .int (val n l3), ⟨2, n, l3, 0, ⟨#[]⟩, []⟩, rfl, ⟨_, rfl, ?_⟩, canon_num_of HGd.out rfl (by omega), ?_, ?_⟩
    · exact Kd.M_mono _ (fun _ _ => trivial) (Kd.M_lower _ (by omega) (Kd.M_far (p := ⟨w.heap.size + 1, 5, none⟩) (Kd.M_far (p := ⟨w.heap.size + 1, 4, none⟩) (Kd.M_far (p := ⟨w.heap.size + 1, 3, none⟩) (Kd.M_far (p := ⟨w.heap.size + 1, 2, none⟩) (Kd.M_far (p := ⟨w.heap.size + 1, 1, none⟩) (Kd.M_far (p := ⟨w.heap.size + 1, 0, none⟩) HM.out hne _) hne _) hne _) hne _) hne _) hne _))
    · show (val n l3).natAbs < 256 ^ 60
      have hbd := beN_bd l3 HGd.out.bytes
      have hp := pow_le_pow l3.length 60 (by omega)
      have e60 : ((256 ^ 60 : Nat) : Int) = 256 ^ 60 := by simp
      unfold val
      cases n <;> simp <;> omega
    · exact (((((((hb1.trans (HB2.out.mono hb1.size)).setCell (p := ⟨w.heap.size + 1, 0, none⟩) hle _).setCell (p := ⟨w.heap.size + 1, 1, none⟩) hle _).setCell (p := ⟨w.heap.size + 1, 2, none⟩) hle _).setCell (p := ⟨w.heap.size + 1, 3, none⟩) hle _).setCell (p := ⟨w.heap.size + 1, 4, none⟩) hle _).setCell (p := ⟨w.heap.size + 1, 5, none⟩) hle _)
set_option maxRecDepth 100000 in
theorem cleanScaD_c (d : Int) (hd : ¬ d ≤ 0) (x : VT) (v : Value) (w : World) (h : RR w v x) (hr : Raw x) (h6 : (wrap64 (x.f0.tmod 10 + 10)).tmod 10 < 6) : Calls Tryz.prog 9 #[v, .int .i64 d] w (CleanR w) := by
  obtain ⟨k, hk⟩ : ∃ k, (wrap64 (x.f0.tmod 10 + 10)).tmod 10 = k := ⟨_, rfl⟩
  rw [hk] at h6
  have hk9 : k = 0 ∨ k = 1 ∨ k = 2 ∨ k = 3 ∨ k = 4 ∨ k = 5 := by
    have a1 := Int.tmod_lt_of_pos x.f0 (show (0 : Int) < 10 by omega)
    have a2 := Int.lt_tmod_of_pos x.f0 (show (0 : Int) < 10 by omega)
    rw [wrap_in _ (by omega) (by omega), Int.tmod_eq_emod_of_nonneg (by omega)] at hk
    omega
  by_cases h28 : k = 2
  · exact cleanIntD_c d hd x v w h hr (by rw [hk, h28])
  obtain ⟨A2, c2, A5, n5, c5, rfl, l2, g2⟩ := h
  have HR := Lib.hid hr
  have HB0 : Hid (Below w.heap.size w ((w.alloc (.cells #[.int .i64 x.f0, .bool x.f1, .slice A2 x.f2.length c2, .int .u64 x.f3, .string x.f4, .slice A5 n5 c5] 26)).alloc (.cells #[.int .i64 0, .bool false, .slice none 0 0, .int .u64 0, .string ⟨#[]⟩, .slice none 0 0] 26))) := Lib.hid (((Below.refl _ w).alloc (Nat.le_refl _) _).alloc (by simp) _)
  have HK0 : Hid (((w.alloc (.cells #[.int .i64 x.f0, .bool x.f1, .slice A2 x.f2.length c2, .int .u64 x.f3, .string x.f4, .slice A5 n5 c5] 26)).alloc (.cells #[.int .i64 0, .bool false, .slice none 0 0, .int .u64 0, .string ⟨#[]⟩, .slice none 0 0] 26)).heap[w.heap.size + 1]? = some (.cells #[.int .i64 0, .bool false, .slice none 0 0, .int .u64 0, .string ⟨#[]⟩, .slice none 0 0] 26 (0, 0))) := Lib.hid (by simpa using blk_new (w.alloc _) _)
  clear l2 g2 hr h6
  go_enter Tryz.func9, Tryz.ntmps9
  go_upto_region 2 with fail
  clear hk
  rcases hk9 with rfl | rfl | rfl | rfl | rfl | rfl
  · go_wp2
    refine bodyPost_ret (v := .agg #[.int .i64 0, .bool false, .slice none 0 0, .int .u64 0, .string ⟨#[]⟩, .slice none 0 0]) (by simp [results, Tryz.results9, go_sem]) rfl ?_
    exact ⟨_, .none, ⟨0, false, [], 0, ⟨#[]⟩, []⟩, rfl, vm_flat _ _ _ _ _, canon_flat ⟨by decide, by decide⟩ (by decide) ⟨by decide, by decide⟩ rfl (fun _ _ => rfl), trivial, ((Below.refl _ w).alloc (Nat.le_refl _) _).alloc (by simp) _⟩
  · go_wp2_with (go_at_call 22; (with_reducible refine (boolVal_c _ _).mono ?_); rintro e w1 ⟨rfl, hb1⟩; have HB1 := Lib.hid hb1; obtain ⟨x0, x1, x2, x3, x4, x5⟩ := cells6 (blk_below HK0.out hb1); have hfz := fun o => blk_free (blk_below HK0.out hb1) o; clear hb1)
    · refine bodyPost_ret (v := .agg #[.int .i64 1, .bool false, .slice none 0 0, .int .u64 1, .string ⟨#[]⟩, .slice none 0 0]) (by simp [results, Tryz.results9, go_sem, x0, x1, x2, x3, x4, x5]) rfl ?_
      exact ⟨_, .bool true, ⟨1, false, [], 1, ⟨#[]⟩, []⟩, rfl, vm_flat _ _ _ _ _, canon_flat ⟨by decide, by decide⟩ (by decide) ⟨by decide, by decide⟩ rfl (fun _ _ => rfl), trivial, below6 HB0.out HB1.out _ _ _ _ _ _⟩
    · refine bodyPost_ret (v := .agg #[.int .i64 1, .bool false, .slice none 0 0, .int .u64 0, .string ⟨#[]⟩, .slice none 0 0]) (by simp [results, Tryz.results9, go_sem, x0, x1, x2, x3, x4, x5]) rfl ?_
      exact ⟨_, .bool false, ⟨1, false, [], 0, ⟨#[]⟩, []⟩, rfl, vm_flat _ _ _ _ _, canon_flat ⟨by decide, by decide⟩ (by decide) ⟨by decide, by decide⟩ rfl (fun _ _ => rfl), trivial, below6 HB0.out HB1.out _ _ _ _ _ _⟩
  · exact absurd rfl h28
  · go_wp2
    refine bodyPost_ret (v := .agg #[.int .i64 3, .bool false, .slice none 0 0, .int .u64 x.f3, .string ⟨#[]⟩, .slice none 0 0]) (by simp [results, Tryz.results9, go_sem]) rfl ?_
    have hb3 := HR.out.bits
    exact ⟨_, .float x.f3.toNat, ⟨3, false, [], x.f3, ⟨#[]⟩, []⟩, rfl, vm_flat _ _ _ _ _, canon_flat ⟨by decide, by decide⟩ (by decide) hb3 (by simp [scaOf]) (fun _ _ => rfl), (show x.f3.toNat < 18446744073709551616 by omega), ((Below.refl _ w).alloc (Nat.le_refl _) _).alloc (by simp) _⟩
  · go_wp2
    · refine bodyPost_ret (v := .agg #[.int .i64 4, .bool false, .slice none 0 0, .int .u64 0, .string (x.f4.extract 0 60), .slice none 0 0]) (by simp [results, Tryz.results9, go_sem]) rfl ?_
      exact ⟨_, .str _, ⟨4, false, [], 0, _, []⟩, rfl, vm_flat _ _ _ _ _, canon_flat ⟨by decide, by decide⟩ (by decide) ⟨by decide, by decide⟩ rfl (fun h1 h2 => absurd rfl (by first | exact h1 | exact h2)), (by show (x.f4.extract 0 60).size ≤ 2147483647; rw [ByteArray.size_extract]; omega), ((Below.refl _ w).alloc (Nat.le_refl _) _).alloc (by simp) _⟩
    · refine bodyPost_ret (v := .agg #[.int .i64 4, .bool false, .slice none 0 0, .int .u64 0, .string x.f4, .slice none 0 0]) (by simp [results, Tryz.results9, go_sem]) rfl ?_
      exact ⟨_, .str _, ⟨4, false, [], 0, _, []⟩, rfl, vm_flat _ _ _ _ _, canon_flat ⟨by decide, by decide⟩ (by decide) ⟨by decide, by decide⟩ rfl (fun h1 h2 => absurd rfl (by first | exact h1 | exact h2)), (by show x.f4.size ≤ 2147483647; omega), ((Below.refl _ w).alloc (Nat.le_refl _) _).alloc (by simp) _⟩
  · go_wp2
    · refine bodyPost_ret (v := .agg #[.int .i64 5, .bool false, .slice none 0 0, .int .u64 0, .string (x.f4.extract 0 60), .slice none 0 0]) (by simp [results, Tryz.results9, go_sem]) rfl ?_
      exact ⟨_, .bytes _, ⟨5, false, [], 0, _, []⟩, rfl, vm_flat _ _ _ _ _, canon_flat ⟨by decide, by decide⟩ (by decide) ⟨by decide, by decide⟩ rfl (fun h1 h2 => absurd rfl (by first | exact h1 | exact h2)), (by show (x.f4.extract 0 60).size ≤ 2147483647; rw [ByteArray.size_extract]; omega), ((Below.refl _ w).alloc (Nat.le_refl _) _).alloc (by simp) _⟩
    · refine bodyPost_ret (v := .agg #[.int .i64 5, .bool false, .slice none 0 0, .int .u64 0, .string x.f4, .slice none 0 0]) (by simp [results, Tryz.results9, go_sem]) rfl ?_
      exact ⟨_, .bytes _, ⟨5, false, [], 0, _, []⟩, rfl, vm_flat _ _ _ _ _, canon_flat ⟨by decide, by decide⟩ (by decide) ⟨by decide, by decide⟩ rfl (fun h1 h2 => absurd rfl (by first | exact h1 | exact h2)), (by show x.f4.size ≤ 2147483647; omega), ((Below.refl _ w).alloc (Nat.le_refl _) _).alloc (by simp) _⟩
end Go.Proofs.YtkplnbjgkhmbcaaGreatDoor
namespace Go.Proofs.YtkplnbjgkhmbcaaGreatDoor
open Go.RowKit Go.Shelf Go.Proofs.YtkplnbjgkhmbcaaGreatDoorW.PrintWords Go.Proofs.YtkplnbjgkhmbcaaGreatDoorW.PrintLast Go.Proofs.YtkplnbjgkhmbcaaGreatDoorW.PrintMore Go.Proofs.YtkplnbjgkhmbcaaGreatDoor.PFnCompare Go.Proofs.YtkplnbjgkhmbcaaGreatDoor.PCmp Go.Proofs.YtkplnbjgkhmbcaaGreatDoor.PbytesOf Go.Proofs.YtkplnbjgkhmbcaaGreatDoor.Pcmp
set_option linter.unusedVariables false
set_option linter.unusedSimpArgs false
abbrev six5 (x : VT) (A2 : Option Addr) (c2 : Nat) (A5 : Option Addr) (n5 c5 : Nat) : Array Value := #[.int .i64 x.f0, .bool x.f1, .slice A2 x.f2.length c2, .int .u64 x.f3, .string x.f4, .slice A5 n5 c5]
def RawN : Nat → World → VT → Option Addr → Nat → Option Addr → Nat → Nat → Prop
  | 0, w, x, A2, c2, A5, n5, c5 => RR w (.agg (six5 x A2 c2 A5 n5 c5)) x ∧ Raw x
  | n + 1, w, x, A2, c2, A5, n5, c5 => (RR w (.agg (six5 x A2 c2 A5 n5 c5)) x ∧ Raw x) ∧ n5 ≤ 9223372036854775807 ∧ ∀ i, i < n5 → ∃ b o y P2 p2 P5 m5 p5, A5 = some ⟨b, o, none⟩ ∧ b < w.heap.size ∧
      w.cell? ⟨b, o + i * 6, none⟩ = some (.int .i64 y.f0) ∧ w.cell? ⟨b, o + i * 6 + 1, none⟩ = some (.bool y.f1) ∧ w.cell? ⟨b, o + i * 6 + 2, none⟩ = some (.slice P2 y.f2.length p2) ∧ w.cell? ⟨b, o + i * 6 + 3, none⟩ = some (.int .u64 y.f3) ∧ w.cell? ⟨b, o + i * 6 + 4, none⟩ = some (.string y.f4) ∧ w.cell? ⟨b, o + i * 6 + 5, none⟩ = some (.slice P5 m5 p5) ∧ RawN n w y P2 p2 P5 m5 p5
theorem RawN.top {n : Nat} {w : World} {x : VT} {A2 : Option Addr} {c2 : Nat} {A5 : Option Addr} {n5 c5 : Nat} (h : RawN n w x A2 c2 A5 n5 c5) : RR w (.agg (six5 x A2 c2 A5 n5 c5)) x ∧ Raw x := by
  cases n with
  | zero => exact h
  | succ n => exact h.1
theorem RawN.below : ∀ {n : Nat} {w w' : World} {x : VT} {A2 : Option Addr} {c2 : Nat} {A5 : Option Addr} {n5 c5 : Nat}, RawN n w x A2 c2 A5 n5 c5 → Below w.heap.size w w' → RawN n w' x A2 c2 A5 n5 c5
  | 0, _, _, _, _, _, _, _, _, h, hb => ⟨h.1.below hb, h.2⟩
  | n + 1, _, _, _, _, _, _, _, _, h, hb => ⟨⟨h.1.1.below hb, h.1.2⟩, h.2.1, fun i hi => by
      obtain ⟨b, o, y, P2, p2, P5, m5, p5, e, hlt, k0, k1, k2, k3, k4, k5, hr⟩ := h.2.2 i hi
      exact ⟨b, o, y, P2, p2, P5, m5, p5, e, Nat.lt_of_lt_of_le hlt hb.size, (hb.cell (p := ⟨b, _, none⟩) hlt).trans k0, (hb.cell (p := ⟨b, _, none⟩) hlt).trans k1, (hb.cell (p := ⟨b, _, none⟩) hlt).trans k2, (hb.cell (p := ⟨b, _, none⟩) hlt).trans k3, (hb.cell (p := ⟨b, _, none⟩) hlt).trans k4, (hb.cell (p := ⟨b, _, none⟩) hlt).trans k5, hr.below hb⟩⟩
def CleanN (n : Nat) (w : World) (e : Ending) (w' : World) : Prop := ∃ cs y, e = .returned (.agg (List.toArray cs)) ∧ kV.M w' w.heap.size (fun _ => True) y cs ∧ CT n y ∧ Below w.heap.size w w'
theorem cleanN_of {n : Nat} {w : World} {e : Ending} {w' : World} (h : CleanR w e w') : CleanN n w e w' := by
  obtain ⟨u, s, y, rfl, ⟨cs, rfl, hM⟩, hc, hf, hb⟩ := h
  exact ⟨cs, y, rfl, hM, CT.sc ⟨s, hc, hf⟩ n, hb⟩
theorem kidM_new {w1 wr : World} {B : Nat} {y : VT} {cs : List Value} (h : kV.M w1 wr.heap.size (fun _ => True) y cs) (hB : B ≤ wr.heap.size) : kV.M w1 B (fun j => False ∨ wr.heap.size ≤ j) y cs :=
  Kd.M_lower _ hB (Kd.M_mono _ (fun j hj => Or.inr hj.2.1) (Kd.M_bound _ h))
set_option maxRecDepth 100000 in
set_option maxHeartbeats 1000000 in
theorem cleanRow_c (m : Nat) (d d' : Int) (hd : ¬ d ≤ 0) (hdd : d - 1 = d') (hw : IntKind.i64.wrap d' = d') (k : Int) (hk67 : k = 6 ∨ k = 7) (x : VT) (A2 : Option Addr) (c2 : Nat) (A5 : Option Addr) (n5 c5 : Nat) (w : World) (h : RawN (m + 1) w x A2 c2 A5 n5 c5) (hk : (wrap64 (x.f0.tmod 10 + 10)).tmod 10 = k)
    (ih : ∀ (x : VT) (A2 : Option Addr) (c2 : Nat) (A5 : Option Addr) (n5 c5 : Nat) (w : World), RawN m w x A2 c2 A5 n5 c5 → Calls Tryz.prog 9 #[.agg (six5 x A2 c2 A5 n5 c5), .int .i64 d'] w (CleanN m w)) :
    Calls Tryz.prog 9 #[.agg (six5 x A2 c2 A5 n5 c5), .int .i64 d] w (CleanN (m + 1) w) := by
  obtain ⟨a0, a1, a2, a3, a4, a5⟩ := x
  dsimp only [six5] at *
  have HKM := Lib.hid h.2.2
  have hn5 : n5 ≤ 9223372036854775807 := h.2.1
  have HIH := Lib.hid ih
  obtain ⟨F, hF⟩ : ∃ F : Nat → Prop, F = fun j => w.heap.size + 3 ≤ j := ⟨_, rfl⟩
  have hF1 : ∀ j, F j → Free w.heap.size j := by rw [hF]; intro j h; exact Or.inr h
  have hF2 : ∀ j, w.heap.size + 3 ≤ j → F j := by rw [hF]; intro j h; exact h
  have HFF := Lib.hid hF
  have HF := Lib.hid hF1
  have HF2 := Lib.hid hF2
  have hdw : IntKind.i64.wrap (d - 1) = d' := by rw [hdd]; exact hw
  clear hF hF1 hF2 h ih
  go_enter Tryz.func9, Tryz.ntmps9
  go_upto_region 2 with fail
  clear hk
  rcases hk67 with rfl | rfl
  · have HT0 : Hid (CB w w.heap.size F #[.int .i64 a0, .bool a1, .slice A2 a2.length c2, .int .u64 a3, .string a4, .slice A5 n5 c5] 6 (.slice none 0 0) [] (((w.alloc (.cells #[.int .i64 a0, .bool a1, .slice A2 a2.length c2, .int .u64 a3, .string a4, .slice A5 n5 c5] 26)).alloc (.cells zero6 26)).alloc (.cells #[.int .i64 6, .bool false, .slice none 0 0, .int .u64 0, .string ⟨#[]⟩, .slice none 0 0] 26))) := Lib.hid (CB.start w w.heap.size F _ 6 HF.out HF2.out)
    obtain ⟨W0, hW0⟩ : ∃ W, W = (((w.alloc (.cells #[.int .i64 a0, .bool a1, .slice A2 a2.length c2, .int .u64 a3, .string a4, .slice A5 n5 c5] 26)).alloc (.cells zero6 26)).alloc (.cells #[.int .i64 6, .bool false, .slice none 0 0, .int .u64 0, .string ⟨#[]⟩, .slice none 0 0] 26)) := ⟨_, rfl⟩
    rw [← hW0] at HT0
    go_wp2_with fail
    rw [← hW0]
    clear hW0
    go_loopw [7] (fun i wr => ∃ (j : Nat) (out : Value) (ys : List VT), j ≤ n5 ∧ j ≤ 8 ∧ i = .int .i64 (j : Int) ∧ ys.length = j ∧ Hid (∀ y ∈ ys, CT m y) ∧ Hid (CB w w.heap.size F #[.int .i64 a0, .bool a1, .slice A2 a2.length c2, .int .u64 a3, .string a4, .slice A5 n5 c5] 6 out ys wr)) (fun i _ => 8 - (intOf i).toNat)
    case atStart => exact ⟨0, _, [], Nat.zero_le _, by omega, rfl, rfl, Lib.hid (fun y hy => by cases hy), HT0⟩
    case round =>
      clear HT0
      obtain ⟨j, out, ys, hj, hj8, rfl, hys, HQ, HT⟩ := hrel
      by_cases hlt : j < n5 ∧ j < 8
      · obtain ⟨hl1, hl2⟩ := hlt
        have hl3 : (j : Int) < 8 := by omega
        obtain ⟨b, o, y, P2, p2, P5, m5, p5, rfl, hb, k0, k1, k2, k3, k4, k5, hV⟩ := HKM.out j hl1
        have hB := HT.out.low
        have x0 := (hB.cell (p := ⟨b, o + j * 6, none⟩) hb).trans k0
        have x1 := (hB.cell (p := ⟨b, o + j * 6 + 1, none⟩) hb).trans k1
        have x2 := (hB.cell (p := ⟨b, o + j * 6 + 2, none⟩) hb).trans k2
        have x3 := (hB.cell (p := ⟨b, o + j * 6 + 3, none⟩) hb).trans k3
        have x4 := (hB.cell (p := ⟨b, o + j * 6 + 4, none⟩) hb).trans k4
        have x5 := (hB.cell (p := ⟨b, o + j * 6 + 5, none⟩) hb).trans k5
        have z5 := (cells6 HT.out.b1).2.2.2.2.2
        have y5 := (cells6 HT.out.b3).2.2.2.2.2
        have hsz3 := HT.out.size
        have hsz : w.heap.size + 2 ≤ wr.heap.size := by omega
        have hlow : w.heap.size ≤ wr.heap.size := by omega
        have HC : Hid (Calls Tryz.prog 9 #[.agg (six5 y P2 p2 P5 m5 p5), .int .i64 d'] wr.drew (CleanN m wr.drew)) := Lib.hid (HIH.out y P2 p2 P5 m5 p5 wr.drew (hV.below hB.drew))
        have HBr : Hid (Below (w.heap.size + 2) wr wr) := Lib.hid (Below.refl _ _)
        have HS : Hid (∀ W, Below (w.heap.size + 2) wr W → (W.cell? ⟨b, o + j * 6, none⟩ = some (.int .i64 y.f0) ∧ W.cell? ⟨b, o + j * 6 + 1, none⟩ = some (.bool y.f1) ∧ W.cell? ⟨b, o + j * 6 + 2, none⟩ = some (.slice P2 y.f2.length p2) ∧ W.cell? ⟨b, o + j * 6 + 3, none⟩ = some (.int .u64 y.f3) ∧ W.cell? ⟨b, o + j * 6 + 4, none⟩ = some (.string y.f4) ∧ W.cell? ⟨b, o + j * 6 + 5, none⟩ = some (.slice P5 m5 p5)) ∧ W.cell? ⟨w.heap.size, 5, none⟩ = some (.slice (some ⟨b, o, none⟩) n5 c5)) := Lib.hid fun W hW => by
          have hb2 : b < w.heap.size + 2 := by omega
          exact ⟨⟨(hW.cell (p := ⟨b, o + j * 6, none⟩) hb2).trans x0, (hW.cell (p := ⟨b, o + j * 6 + 1, none⟩) hb2).trans x1, (hW.cell (p := ⟨b, o + j * 6 + 2, none⟩) hb2).trans x2, (hW.cell (p := ⟨b, o + j * 6 + 3, none⟩) hb2).trans x3, (hW.cell (p := ⟨b, o + j * 6 + 4, none⟩) hb2).trans x4, (hW.cell (p := ⟨b, o + j * 6 + 5, none⟩) hb2).trans x5⟩, (hW.cell (p := ⟨w.heap.size, 5, none⟩) (by show w.heap.size < _; omega)).trans z5⟩
        clear k0 k1 k2 k3 k4 k5 hV hB x0 x1 x2 x3 x4 x5
        go_upto_region 20 with fail
        clear z5
        refine wp_region_held_drew (S := fun W => (W.cell? ⟨b, o + j * 6, none⟩ = some (.int .i64 y.f0) ∧ W.cell? ⟨b, o + j * 6 + 1, none⟩ = some (.bool y.f1) ∧ W.cell? ⟨b, o + j * 6 + 2, none⟩ = some (.slice P2 y.f2.length p2) ∧ W.cell? ⟨b, o + j * 6 + 3, none⟩ = some (.int .u64 y.f3) ∧ W.cell? ⟨b, o + j * 6 + 4, none⟩ = some (.string y.f4) ∧ W.cell? ⟨b, o + j * 6 + 5, none⟩ = some (.slice P5 m5 p5)) ∧ W.cell? ⟨w.heap.size, 5, none⟩ = some (.slice (some ⟨b, o, none⟩) n5 c5)) (by kernel_rfl) (HS.out _ HBr.out.drew) (fun hHeld => ?_)
        refine wpAnyH_take (i := 0) (oi := _) (v := ?_) rfl (by kernel_rfl) (by kernel_rfl) (by kernel_rfl) (fun _ _ _ h => h) (Or.inl ⟨by rfl, ?_⟩) (by assumption) ?_; rotate_left 1; · (intro w hSw; (try dsimp only at hSw); go_simp; first | done | with_reducible rfl)
        try simp only [Act.put, List.setIfInBounds_toArray, List.set_cons_zero, List.set_cons_succ, List.getElem_toArray, List.getElem_cons_zero, List.getElem_cons_succ]
        refine wpAnyH_take (i := 2) (oi := _) (v := ?_) rfl (by kernel_rfl) (by kernel_rfl) (by kernel_rfl) (fun _ _ _ h => h) (Or.inl ⟨by rfl, ?_⟩) (by assumption) ?_; rotate_left 1; · (intro w hSw; (try dsimp only at hSw); go_simp; first | done | with_reducible rfl)
        try simp only [Act.put, List.setIfInBounds_toArray, List.set_cons_zero, List.set_cons_succ, List.getElem_toArray, List.getElem_cons_zero, List.getElem_cons_succ]
        refine wpAnyH_take (i := 3) (oi := _) (v := ?_) rfl (by kernel_rfl) (by kernel_rfl) (by kernel_rfl) (fun _ _ _ h => h) (Or.inl ⟨by rfl, ?_⟩) (by assumption) ?_; rotate_left 1; · (intro w hSw; (try dsimp only at hSw); go_simp; first | done | with_reducible rfl)
        try simp only [Act.put, List.setIfInBounds_toArray, List.set_cons_zero, List.set_cons_succ, List.getElem_toArray, List.getElem_cons_zero, List.getElem_cons_succ]
        refine wpAnyH_take (i := 4) (oi := _) (v := ?_) rfl (by kernel_rfl) (by kernel_rfl) (by kernel_rfl) (fun _ _ _ h => h) (Or.inl ⟨by rfl, ?_⟩) (by assumption) ?_; rotate_left 1; · (intro w hSw; (try dsimp only at hSw); go_simp; first | done | with_reducible rfl)
        try simp only [Act.put, List.setIfInBounds_toArray, List.set_cons_zero, List.set_cons_succ, List.getElem_toArray, List.getElem_cons_zero, List.getElem_cons_succ]
        refine wpAnyH_take (i := 5) (oi := _) (v := ?_) rfl (by kernel_rfl) (by kernel_rfl) (by kernel_rfl) (fun _ _ _ h => h) (Or.inl ⟨by rfl, ?_⟩) (by assumption) ?_; rotate_left 1; · (intro w hSw; (try dsimp only at hSw); go_simp; first | done | with_reducible rfl)
        try simp only [Act.put, List.setIfInBounds_toArray, List.set_cons_zero, List.set_cons_succ, List.getElem_toArray, List.getElem_cons_zero, List.getElem_cons_succ]
        refine wpAnyH_take (i := 6) (oi := _) (v := ?_) rfl (by kernel_rfl) (by kernel_rfl) (by kernel_rfl) (fun _ _ _ h => h) (Or.inl ⟨by rfl, ?_⟩) (by assumption) ?_; rotate_left 1; · (intro w hSw; (try dsimp only at hSw); go_simp; first | done | with_reducible rfl)
        try simp only [Act.put, List.setIfInBounds_toArray, List.set_cons_zero, List.set_cons_succ, List.getElem_toArray, List.getElem_cons_zero, List.getElem_cons_succ]
        refine wpAnyH_take (i := 7) (oi := _) (v := ?_) rfl (by kernel_rfl) (by kernel_rfl) (by kernel_rfl) (fun _ _ _ h => h) (Or.inl ⟨by rfl, ?_⟩) (by assumption) ?_; rotate_left 1; · (intro w hSw; (try dsimp only at hSw); go_simp; first | done | with_reducible rfl)
        try simp only [Act.put, List.setIfInBounds_toArray, List.set_cons_zero, List.set_cons_succ, List.getElem_toArray, List.getElem_cons_zero, List.getElem_cons_succ]
        refine wpAnyH_take (i := 8) (oi := _) (v := ?_) rfl (by kernel_rfl) (by kernel_rfl) (by kernel_rfl) (fun _ _ _ h => h) (Or.inl ⟨by rfl, ?_⟩) (by assumption) ?_; rotate_left 1; · (intro w hSw; (try dsimp only at hSw); go_simp; first | done | with_reducible rfl)
        try simp only [Act.put, List.setIfInBounds_toArray, List.set_cons_zero, List.set_cons_succ, List.getElem_toArray, List.getElem_cons_zero, List.getElem_cons_succ]
        refine wpAnyH_ready (rs := [1, 9]) (by kernel_rfl) (by simp) ?_
        refine AllReadyH.cons (o := _) rfl (fun K hK => ?_) (AllReadyH.cons (o := _) rfl (fun K hK => ?_) AllReadyH.nil)
        · go_simp
          refine hK.out _ _ (HS.out _ HBr.out.drew) (fun hHeld => ?_)
          clear hK K
          try simp only [Act.put, List.setIfInBounds_toArray, List.set_cons_zero, List.set_cons_succ, List.getElem_toArray, List.getElem_cons_zero, List.getElem_cons_succ]
          refine wpAnyH_ready (rs := [9]) (by kernel_rfl) (by simp) ?_
          refine AllReadyH.cons (o := _) rfl (fun K hK => ?_) AllReadyH.nil
          go_simp; go_at_call 9; (with_reducible refine HC.out.mono ?_); rintro e w1 ⟨cs1, y1, rfl, hM, hct, hb1⟩; obtain ⟨Q2, q2, Q5, q5, rfl⟩ := m_shape hM; have HV := Lib.hid (HT.out.drewed.app (okk := fun _ => False) hb1 (kidM_new hM hlow) (fun _ h => h.elim) (Nat.le_refl _)); have HCT := Lib.hid hct; have HB1 := Lib.hid (HBr.out.drew.trans (hb1.mono hsz)); have t5 := (cells6 HV.out.2.2.2.2.2.2.b3).2.2.2.2.2; have tA : ∀ o, (w1.alloc o).cell? ⟨w.heap.size + 2, 5, none⟩ = some out := fun o => (cells6 (blk_alloc HV.out.2.2.2.2.2.2.b3 o)).2.2.2.2.2; clear hM hct hb1
          refine hK.out _ _ (HS.out _ HB1.out) (fun hHeld => ?_)
          clear hK K
          try simp only [Act.put, List.setIfInBounds_toArray, List.set_cons_zero, List.set_cons_succ, List.getElem_toArray, List.getElem_cons_zero, List.getElem_cons_succ]
          refine wpAnyH_ready (rs := [10]) (by kernel_rfl) (by simp) ?_
          refine AllReadyH.cons (o := _) rfl (fun K hK => ?_) AllReadyH.nil
          go_simp
          refine hK.out _ _ (HS.out _ (HB1.out.alloc (Nat.le_trans hsz HB1.out.size) _)) (fun hHeld => ?_)
          clear hK K
          try simp only [Act.put, List.setIfInBounds_toArray, List.set_cons_zero, List.set_cons_succ, List.getElem_toArray, List.getElem_cons_zero, List.getElem_cons_succ]
          refine wpAnyH_ready (rs := [11]) (by kernel_rfl) (by simp) ?_
          refine AllReadyH.cons (o := _) rfl (fun K hK => ?_) AllReadyH.nil
          refine Kd.R_append_step kV (w0 := w1) w.heap.size rfl (.tmp 76) (.tmp 85) 24 26 (.agg zero6) 88 rfl Tryz.underlying24 vInfo rfl (by decide) (by omega) out ys y1 _ F _ rfl rfl HV.out.1 HV.out.2.1 HV.out.2.2.1 HV.out.2.2.2.1 HV.out.2.2.2.2.1 HV.out.2.2.2.2.2.1 (by omega) ?_; intro v1 w2 hr2 hb2 hg hat; obtain ⟨Av, cv, rfl⟩ := Kd.R_slice hr2; have HP := Lib.hid (HV.out.2.2.2.2.2.2.push hr2 hg hat); have hz2 := HV.out.2.2.2.2.2.2.third hg; have HB2 := Lib.hid (HV.out.2.2.2.2.2.2.keeps hg HB1.out); have u5 := (cells6 hz2).2.2.2.2.2; have uz := blk_free hz2; clear hr2 hb2 hg hat hz2
          refine hK.out _ _ (HS.out _ HB2.out) (fun hHeld => ?_)
          clear hK K
          try simp only [Act.put, List.setIfInBounds_toArray, List.set_cons_zero, List.set_cons_succ, List.getElem_toArray, List.getElem_cons_zero, List.getElem_cons_succ]
          refine wpAnyH_take (i := 12) (oi := _) (v := ?_) rfl (by kernel_rfl) (by kernel_rfl) (by kernel_rfl) (fun _ _ _ h => h) (Or.inl ⟨by rfl, ?_⟩) (by assumption) ?_; rotate_left 1; · (intro w hSw; (try dsimp only at hSw); go_simp; first | done | with_reducible rfl)
          try simp only [Act.put, List.setIfInBounds_toArray, List.set_cons_zero, List.set_cons_succ, List.getElem_toArray, List.getElem_cons_zero, List.getElem_cons_succ]
          refine wpAnyH_ready (rs := [13]) (by kernel_rfl) (by simp) ?_
          refine AllReadyH.cons (o := _) rfl (fun K hK => ?_) AllReadyH.nil
          go_simp
          refine hK.out _ _ (HS.out _ (HB2.out.setCell (p := ⟨w.heap.size + 2, 5, none⟩) (Nat.le_refl _) _)) (fun hHeld => ?_)
          clear hK K
          try simp only [Act.put, List.setIfInBounds_toArray, List.set_cons_zero, List.set_cons_succ, List.getElem_toArray, List.getElem_cons_zero, List.getElem_cons_succ]
          refine wpAnyH_done (by kernel_rfl) ?_ _
          go_wp2
          go_roundw
          case rel => exact ⟨j + 1, _, ys ++ [y1], by omega, by omega, by go_num, by simp [hys], Lib.hid (fun q hq => by rcases List.mem_append.1 hq with h | h; exact HQ.out q h; rw [List.mem_singleton] at h; rw [h]; exact HCT.out), Lib.hid (cb_len HP.out (by simp [hys]))⟩
          case measure => simp [intOf]; omega
        · go_simp; go_at_call 9; (with_reducible refine HC.out.mono ?_); rintro e w1 ⟨cs1, y1, rfl, hM, hct, hb1⟩; obtain ⟨Q2, q2, Q5, q5, rfl⟩ := m_shape hM; have HV := Lib.hid (HT.out.drewed.app (okk := fun _ => False) hb1 (kidM_new hM hlow) (fun _ h => h.elim) (Nat.le_refl _)); have HCT := Lib.hid hct; have HB1 := Lib.hid (HBr.out.drew.trans (hb1.mono hsz)); have t5 := (cells6 HV.out.2.2.2.2.2.2.b3).2.2.2.2.2; have tA : ∀ o, (w1.alloc o).cell? ⟨w.heap.size + 2, 5, none⟩ = some out := fun o => (cells6 (blk_alloc HV.out.2.2.2.2.2.2.b3 o)).2.2.2.2.2; clear hM hct hb1
          refine hK.out _ _ (HS.out _ HB1.out) (fun hHeld => ?_)
          clear hK K
          try simp only [Act.put, List.setIfInBounds_toArray, List.set_cons_zero, List.set_cons_succ, List.getElem_toArray, List.getElem_cons_zero, List.getElem_cons_succ]
          refine wpAnyH_ready (rs := [1, 10]) (by kernel_rfl) (by simp) ?_
          refine AllReadyH.cons (o := _) rfl (fun K hK => ?_) (AllReadyH.cons (o := _) rfl (fun K hK => ?_) AllReadyH.nil)
          · go_simp
            refine hK.out _ _ (HS.out _ HB1.out) (fun hHeld => ?_)
            clear hK K
            try simp only [Act.put, List.setIfInBounds_toArray, List.set_cons_zero, List.set_cons_succ, List.getElem_toArray, List.getElem_cons_zero, List.getElem_cons_succ]
            refine wpAnyH_ready (rs := [10]) (by kernel_rfl) (by simp) ?_
            refine AllReadyH.cons (o := _) rfl (fun K hK => ?_) AllReadyH.nil
            go_simp
            refine hK.out _ _ (HS.out _ (HB1.out.alloc (Nat.le_trans hsz HB1.out.size) _)) (fun hHeld => ?_)
            clear hK K
            try simp only [Act.put, List.setIfInBounds_toArray, List.set_cons_zero, List.set_cons_succ, List.getElem_toArray, List.getElem_cons_zero, List.getElem_cons_succ]
            refine wpAnyH_ready (rs := [11]) (by kernel_rfl) (by simp) ?_
            refine AllReadyH.cons (o := _) rfl (fun K hK => ?_) AllReadyH.nil
            refine Kd.R_append_step kV (w0 := w1) w.heap.size rfl (.tmp 76) (.tmp 85) 24 26 (.agg zero6) 88 rfl Tryz.underlying24 vInfo rfl (by decide) (by omega) out ys y1 _ F _ rfl rfl HV.out.1 HV.out.2.1 HV.out.2.2.1 HV.out.2.2.2.1 HV.out.2.2.2.2.1 HV.out.2.2.2.2.2.1 (by omega) ?_; intro v1 w2 hr2 hb2 hg hat; obtain ⟨Av, cv, rfl⟩ := Kd.R_slice hr2; have HP := Lib.hid (HV.out.2.2.2.2.2.2.push hr2 hg hat); have hz2 := HV.out.2.2.2.2.2.2.third hg; have HB2 := Lib.hid (HV.out.2.2.2.2.2.2.keeps hg HB1.out); have u5 := (cells6 hz2).2.2.2.2.2; have uz := blk_free hz2; clear hr2 hb2 hg hat hz2
            refine hK.out _ _ (HS.out _ HB2.out) (fun hHeld => ?_)
            clear hK K
            try simp only [Act.put, List.setIfInBounds_toArray, List.set_cons_zero, List.set_cons_succ, List.getElem_toArray, List.getElem_cons_zero, List.getElem_cons_succ]
            refine wpAnyH_take (i := 12) (oi := _) (v := ?_) rfl (by kernel_rfl) (by kernel_rfl) (by kernel_rfl) (fun _ _ _ h => h) (Or.inl ⟨by rfl, ?_⟩) (by assumption) ?_; rotate_left 1; · (intro w hSw; (try dsimp only at hSw); go_simp; first | done | with_reducible rfl)
            try simp only [Act.put, List.setIfInBounds_toArray, List.set_cons_zero, List.set_cons_succ, List.getElem_toArray, List.getElem_cons_zero, List.getElem_cons_succ]
            refine wpAnyH_ready (rs := [13]) (by kernel_rfl) (by simp) ?_
            refine AllReadyH.cons (o := _) rfl (fun K hK => ?_) AllReadyH.nil
            go_simp
            refine hK.out _ _ (HS.out _ (HB2.out.setCell (p := ⟨w.heap.size + 2, 5, none⟩) (Nat.le_refl _) _)) (fun hHeld => ?_)
            clear hK K
            try simp only [Act.put, List.setIfInBounds_toArray, List.set_cons_zero, List.set_cons_succ, List.getElem_toArray, List.getElem_cons_zero, List.getElem_cons_succ]
            refine wpAnyH_done (by kernel_rfl) ?_ _
            go_wp2
            go_roundw
            case rel => exact ⟨j + 1, _, ys ++ [y1], by omega, by omega, by go_num, by simp [hys], Lib.hid (fun q hq => by rcases List.mem_append.1 hq with h | h; exact HQ.out q h; rw [List.mem_singleton] at h; rw [h]; exact HCT.out), Lib.hid (cb_len HP.out (by simp [hys]))⟩
            case measure => simp [intOf]; omega
          · go_simp
            refine hK.out _ _ (HS.out _ (HB1.out.alloc (Nat.le_trans hsz HB1.out.size) _)) (fun hHeld => ?_)
            clear hK K
            try simp only [Act.put, List.setIfInBounds_toArray, List.set_cons_zero, List.set_cons_succ, List.getElem_toArray, List.getElem_cons_zero, List.getElem_cons_succ]
            refine wpAnyH_ready (rs := [1]) (by kernel_rfl) (by simp) ?_
            refine AllReadyH.cons (o := _) rfl (fun K hK => ?_) AllReadyH.nil
            go_simp
            refine hK.out _ _ (HS.out _ (HB1.out.alloc (Nat.le_trans hsz HB1.out.size) _)) (fun hHeld => ?_)
            clear hK K
            try simp only [Act.put, List.setIfInBounds_toArray, List.set_cons_zero, List.set_cons_succ, List.getElem_toArray, List.getElem_cons_zero, List.getElem_cons_succ]
            refine wpAnyH_ready (rs := [11]) (by kernel_rfl) (by simp) ?_
            refine AllReadyH.cons (o := _) rfl (fun K hK => ?_) AllReadyH.nil
            refine Kd.R_append_step kV (w0 := w1) w.heap.size rfl (.tmp 76) (.tmp 85) 24 26 (.agg zero6) 88 rfl Tryz.underlying24 vInfo rfl (by decide) (by omega) out ys y1 _ F _ rfl rfl HV.out.1 HV.out.2.1 HV.out.2.2.1 HV.out.2.2.2.1 HV.out.2.2.2.2.1 HV.out.2.2.2.2.2.1 (by omega) ?_; intro v1 w2 hr2 hb2 hg hat; obtain ⟨Av, cv, rfl⟩ := Kd.R_slice hr2; have HP := Lib.hid (HV.out.2.2.2.2.2.2.push hr2 hg hat); have hz2 := HV.out.2.2.2.2.2.2.third hg; have HB2 := Lib.hid (HV.out.2.2.2.2.2.2.keeps hg HB1.out); have u5 := (cells6 hz2).2.2.2.2.2; have uz := blk_free hz2; clear hr2 hb2 hg hat hz2
            refine hK.out _ _ (HS.out _ HB2.out) (fun hHeld => ?_)
            clear hK K
            try simp only [Act.put, List.setIfInBounds_toArray, List.set_cons_zero, List.set_cons_succ, List.getElem_toArray, List.getElem_cons_zero, List.getElem_cons_succ]
            refine wpAnyH_take (i := 12) (oi := _) (v := ?_) rfl (by kernel_rfl) (by kernel_rfl) (by kernel_rfl) (fun _ _ _ h => h) (Or.inl ⟨by rfl, ?_⟩) (by assumption) ?_; rotate_left 1; · (intro w hSw; (try dsimp only at hSw); go_simp; first | done | with_reducible rfl)
            try simp only [Act.put, List.setIfInBounds_toArray, List.set_cons_zero, List.set_cons_succ, List.getElem_toArray, List.getElem_cons_zero, List.getElem_cons_succ]
            refine wpAnyH_ready (rs := [13]) (by kernel_rfl) (by simp) ?_
            refine AllReadyH.cons (o := _) rfl (fun K hK => ?_) AllReadyH.nil
            go_simp
            refine hK.out _ _ (HS.out _ (HB2.out.setCell (p := ⟨w.heap.size + 2, 5, none⟩) (Nat.le_refl _) _)) (fun hHeld => ?_)
            clear hK K
            try simp only [Act.put, List.setIfInBounds_toArray, List.set_cons_zero, List.set_cons_succ, List.getElem_toArray, List.getElem_cons_zero, List.getElem_cons_succ]
            refine wpAnyH_done (by kernel_rfl) ?_ _
            go_wp2
            go_roundw
            case rel => exact ⟨j + 1, _, ys ++ [y1], by omega, by omega, by go_num, by simp [hys], Lib.hid (fun q hq => by rcases List.mem_append.1 hq with h | h; exact HQ.out q h; rw [List.mem_singleton] at h; rw [h]; exact HCT.out), Lib.hid (cb_len HP.out (by simp [hys]))⟩
            case measure => simp [intOf]; omega
      · obtain ⟨Ao, Lo, co, rfl⟩ : ∃ A L c, out = .slice A L c := by obtain ⟨A, c, e⟩ := Kd.R_slice HT.out.row; exact ⟨A, _, c, e⟩
        obtain ⟨z0, z1, z2, z3, z4, z5⟩ := cells6 HT.out.b1
        obtain ⟨y0, y1, y2, y3, y4, y5⟩ := cells6 HT.out.b2
        obtain ⟨x0, x1, x2, x3, x4, x5⟩ := cells6 HT.out.b3
        have yz := blk_free HT.out.b2
        by_cases hl1 : j < n5
        all_goals
          have hl2 : ¬ ((j : Int) < n5) ∨ ¬ ((j : Int) < 8) := by omega
          first
            | have hl3 : ¬ ((j : Int) < 8) := by omega
            | have hl4 : ¬ ((j : Int) < n5) := by omega
          go_wp2
          refine bodyPost_ret (v := .agg #[.int .i64 6, .bool false, .slice none 0 0, .int .u64 0, .string ⟨#[]⟩, .slice Ao Lo co]) (by simp [results, Tryz.results9, go_sem, y0, y1, y2, y3, y4, y5]) rfl ?_
          obtain ⟨hM, hb⟩ := HT.out.final (.int .i64 6) (.bool false) (.slice none 0 0) (.int .u64 0) (.string ⟨#[]⟩) (.slice Ao Lo co)
          exact ⟨_, ⟨6, false, [], 0, ⟨#[]⟩, ys⟩, rfl, Kd.M_mono _ (fun q hq => trivial) hM, Or.inr ⟨⟨rfl, rfl, rfl, rfl⟩, (by show ys.length ≤ 16; omega), HQ.out, by first | exact Or.inl rfl | exact Or.inr (Or.inl rfl)⟩, hb⟩
  · have HT0 : Hid (CB w w.heap.size F #[.int .i64 a0, .bool a1, .slice A2 a2.length c2, .int .u64 a3, .string a4, .slice A5 n5 c5] 7 (.slice none 0 0) [] (((w.alloc (.cells #[.int .i64 a0, .bool a1, .slice A2 a2.length c2, .int .u64 a3, .string a4, .slice A5 n5 c5] 26)).alloc (.cells zero6 26)).alloc (.cells #[.int .i64 7, .bool false, .slice none 0 0, .int .u64 0, .string ⟨#[]⟩, .slice none 0 0] 26))) := Lib.hid (CB.start w w.heap.size F _ 7 HF.out HF2.out)
    obtain ⟨W0, hW0⟩ : ∃ W, W = (((w.alloc (.cells #[.int .i64 a0, .bool a1, .slice A2 a2.length c2, .int .u64 a3, .string a4, .slice A5 n5 c5] 26)).alloc (.cells zero6 26)).alloc (.cells #[.int .i64 7, .bool false, .slice none 0 0, .int .u64 0, .string ⟨#[]⟩, .slice none 0 0] 26)) := ⟨_, rfl⟩
    rw [← hW0] at HT0
    go_wp2_with fail
    rw [← hW0]
    clear hW0
    go_loopw [7] (fun i wr => ∃ (j : Nat) (out : Value) (ys : List VT), j ≤ n5 ∧ j ≤ 8 ∧ i = .int .i64 (j : Int) ∧ ys.length = j ∧ Hid (∀ y ∈ ys, CT m y) ∧ Hid (CB w w.heap.size F #[.int .i64 a0, .bool a1, .slice A2 a2.length c2, .int .u64 a3, .string a4, .slice A5 n5 c5] 7 out ys wr)) (fun i _ => 8 - (intOf i).toNat)
    case atStart => exact ⟨0, _, [], Nat.zero_le _, by omega, rfl, rfl, Lib.hid (fun y hy => by cases hy), HT0⟩
    case round =>
      clear HT0
      obtain ⟨j, out, ys, hj, hj8, rfl, hys, HQ, HT⟩ := hrel
      by_cases hlt : j < n5 ∧ j < 8
      · obtain ⟨hl1, hl2⟩ := hlt
        have hl3 : (j : Int) < 8 := by omega
        obtain ⟨b, o, y, P2, p2, P5, m5, p5, rfl, hb, k0, k1, k2, k3, k4, k5, hV⟩ := HKM.out j hl1
        have hB := HT.out.low
        have x0 := (hB.cell (p := ⟨b, o + j * 6, none⟩) hb).trans k0
        have x1 := (hB.cell (p := ⟨b, o + j * 6 + 1, none⟩) hb).trans k1
        have x2 := (hB.cell (p := ⟨b, o + j * 6 + 2, none⟩) hb).trans k2
        have x3 := (hB.cell (p := ⟨b, o + j * 6 + 3, none⟩) hb).trans k3
        have x4 := (hB.cell (p := ⟨b, o + j * 6 + 4, none⟩) hb).trans k4
        have x5 := (hB.cell (p := ⟨b, o + j * 6 + 5, none⟩) hb).trans k5
        have z5 := (cells6 HT.out.b1).2.2.2.2.2
        have y5 := (cells6 HT.out.b3).2.2.2.2.2
        have hsz3 := HT.out.size
        have hsz : w.heap.size + 2 ≤ wr.heap.size := by omega
        have hlow : w.heap.size ≤ wr.heap.size := by omega
        have HC : Hid (Calls Tryz.prog 9 #[.agg (six5 y P2 p2 P5 m5 p5), .int .i64 d'] wr.drew (CleanN m wr.drew)) := Lib.hid (HIH.out y P2 p2 P5 m5 p5 wr.drew (hV.below hB.drew))
        have HBr : Hid (Below (w.heap.size + 2) wr wr) := Lib.hid (Below.refl _ _)
        have HS : Hid (∀ W, Below (w.heap.size + 2) wr W → (W.cell? ⟨b, o + j * 6, none⟩ = some (.int .i64 y.f0) ∧ W.cell? ⟨b, o + j * 6 + 1, none⟩ = some (.bool y.f1) ∧ W.cell? ⟨b, o + j * 6 + 2, none⟩ = some (.slice P2 y.f2.length p2) ∧ W.cell? ⟨b, o + j * 6 + 3, none⟩ = some (.int .u64 y.f3) ∧ W.cell? ⟨b, o + j * 6 + 4, none⟩ = some (.string y.f4) ∧ W.cell? ⟨b, o + j * 6 + 5, none⟩ = some (.slice P5 m5 p5)) ∧ W.cell? ⟨w.heap.size, 5, none⟩ = some (.slice (some ⟨b, o, none⟩) n5 c5)) := Lib.hid fun W hW => by
          have hb2 : b < w.heap.size + 2 := by omega
          exact ⟨⟨(hW.cell (p := ⟨b, o + j * 6, none⟩) hb2).trans x0, (hW.cell (p := ⟨b, o + j * 6 + 1, none⟩) hb2).trans x1, (hW.cell (p := ⟨b, o + j * 6 + 2, none⟩) hb2).trans x2, (hW.cell (p := ⟨b, o + j * 6 + 3, none⟩) hb2).trans x3, (hW.cell (p := ⟨b, o + j * 6 + 4, none⟩) hb2).trans x4, (hW.cell (p := ⟨b, o + j * 6 + 5, none⟩) hb2).trans x5⟩, (hW.cell (p := ⟨w.heap.size, 5, none⟩) (by show w.heap.size < _; omega)).trans z5⟩
        clear k0 k1 k2 k3 k4 k5 hV hB x0 x1 x2 x3 x4 x5
        go_upto_region 20 with fail
        clear z5
        refine wp_region_held_drew (S := fun W => (W.cell? ⟨b, o + j * 6, none⟩ = some (.int .i64 y.f0) ∧ W.cell? ⟨b, o + j * 6 + 1, none⟩ = some (.bool y.f1) ∧ W.cell? ⟨b, o + j * 6 + 2, none⟩ = some (.slice P2 y.f2.length p2) ∧ W.cell? ⟨b, o + j * 6 + 3, none⟩ = some (.int .u64 y.f3) ∧ W.cell? ⟨b, o + j * 6 + 4, none⟩ = some (.string y.f4) ∧ W.cell? ⟨b, o + j * 6 + 5, none⟩ = some (.slice P5 m5 p5)) ∧ W.cell? ⟨w.heap.size, 5, none⟩ = some (.slice (some ⟨b, o, none⟩) n5 c5)) (by kernel_rfl) (HS.out _ HBr.out.drew) (fun hHeld => ?_)
        refine wpAnyH_take (i := 0) (oi := _) (v := ?_) rfl (by kernel_rfl) (by kernel_rfl) (by kernel_rfl) (fun _ _ _ h => h) (Or.inl ⟨by rfl, ?_⟩) (by assumption) ?_; rotate_left 1; · (intro w hSw; (try dsimp only at hSw); go_simp; first | done | with_reducible rfl)
        try simp only [Act.put, List.setIfInBounds_toArray, List.set_cons_zero, List.set_cons_succ, List.getElem_toArray, List.getElem_cons_zero, List.getElem_cons_succ]
        refine wpAnyH_take (i := 2) (oi := _) (v := ?_) rfl (by kernel_rfl) (by kernel_rfl) (by kernel_rfl) (fun _ _ _ h => h) (Or.inl ⟨by rfl, ?_⟩) (by assumption) ?_; rotate_left 1; · (intro w hSw; (try dsimp only at hSw); go_simp; first | done | with_reducible rfl)
        try simp only [Act.put, List.setIfInBounds_toArray, List.set_cons_zero, List.set_cons_succ, List.getElem_toArray, List.getElem_cons_zero, List.getElem_cons_succ]
        refine wpAnyH_take (i := 3) (oi := _) (v := ?_) rfl (by kernel_rfl) (by kernel_rfl) (by kernel_rfl) (fun _ _ _ h => h) (Or.inl ⟨by rfl, ?_⟩) (by assumption) ?_; rotate_left 1; · (intro w hSw; (try dsimp only at hSw); go_simp; first | done | with_reducible rfl)
        try simp only [Act.put, List.setIfInBounds_toArray, List.set_cons_zero, List.set_cons_succ, List.getElem_toArray, List.getElem_cons_zero, List.getElem_cons_succ]
        refine wpAnyH_take (i := 4) (oi := _) (v := ?_) rfl (by kernel_rfl) (by kernel_rfl) (by kernel_rfl) (fun _ _ _ h => h) (Or.inl ⟨by rfl, ?_⟩) (by assumption) ?_; rotate_left 1; · (intro w hSw; (try dsimp only at hSw); go_simp; first | done | with_reducible rfl)
        try simp only [Act.put, List.setIfInBounds_toArray, List.set_cons_zero, List.set_cons_succ, List.getElem_toArray, List.getElem_cons_zero, List.getElem_cons_succ]
        refine wpAnyH_take (i := 5) (oi := _) (v := ?_) rfl (by kernel_rfl) (by kernel_rfl) (by kernel_rfl) (fun _ _ _ h => h) (Or.inl ⟨by rfl, ?_⟩) (by assumption) ?_; rotate_left 1; · (intro w hSw; (try dsimp only at hSw); go_simp; first | done | with_reducible rfl)
        try simp only [Act.put, List.setIfInBounds_toArray, List.set_cons_zero, List.set_cons_succ, List.getElem_toArray, List.getElem_cons_zero, List.getElem_cons_succ]
        refine wpAnyH_take (i := 6) (oi := _) (v := ?_) rfl (by kernel_rfl) (by kernel_rfl) (by kernel_rfl) (fun _ _ _ h => h) (Or.inl ⟨by rfl, ?_⟩) (by assumption) ?_; rotate_left 1; · (intro w hSw; (try dsimp only at hSw); go_simp; first | done | with_reducible rfl)
        try simp only [Act.put, List.setIfInBounds_toArray, List.set_cons_zero, List.set_cons_succ, List.getElem_toArray, List.getElem_cons_zero, List.getElem_cons_succ]
        refine wpAnyH_take (i := 7) (oi := _) (v := ?_) rfl (by kernel_rfl) (by kernel_rfl) (by kernel_rfl) (fun _ _ _ h => h) (Or.inl ⟨by rfl, ?_⟩) (by assumption) ?_; rotate_left 1; · (intro w hSw; (try dsimp only at hSw); go_simp; first | done | with_reducible rfl)
        try simp only [Act.put, List.setIfInBounds_toArray, List.set_cons_zero, List.set_cons_succ, List.getElem_toArray, List.getElem_cons_zero, List.getElem_cons_succ]
        refine wpAnyH_take (i := 8) (oi := _) (v := ?_) rfl (by kernel_rfl) (by kernel_rfl) (by kernel_rfl) (fun _ _ _ h => h) (Or.inl ⟨by rfl, ?_⟩) (by assumption) ?_; rotate_left 1; · (intro w hSw; (try dsimp only at hSw); go_simp; first | done | with_reducible rfl)
        try simp only [Act.put, List.setIfInBounds_toArray, List.set_cons_zero, List.set_cons_succ, List.getElem_toArray, List.getElem_cons_zero, List.getElem_cons_succ]
        refine wpAnyH_ready (rs := [1, 9]) (by kernel_rfl) (by simp) ?_
        refine AllReadyH.cons (o := _) rfl (fun K hK => ?_) (AllReadyH.cons (o := _) rfl (fun K hK => ?_) AllReadyH.nil)
        · go_simp
          refine hK.out _ _ (HS.out _ HBr.out.drew) (fun hHeld => ?_)
          clear hK K
          try simp only [Act.put, List.setIfInBounds_toArray, List.set_cons_zero, List.set_cons_succ, List.getElem_toArray, List.getElem_cons_zero, List.getElem_cons_succ]
          refine wpAnyH_ready (rs := [9]) (by kernel_rfl) (by simp) ?_
          refine AllReadyH.cons (o := _) rfl (fun K hK => ?_) AllReadyH.nil
          go_simp; go_at_call 9; (with_reducible refine HC.out.mono ?_); rintro e w1 ⟨cs1, y1, rfl, hM, hct, hb1⟩; obtain ⟨Q2, q2, Q5, q5, rfl⟩ := m_shape hM; have HV := Lib.hid (HT.out.drewed.app (okk := fun _ => False) hb1 (kidM_new hM hlow) (fun _ h => h.elim) (Nat.le_refl _)); have HCT := Lib.hid hct; have HB1 := Lib.hid (HBr.out.drew.trans (hb1.mono hsz)); have t5 := (cells6 HV.out.2.2.2.2.2.2.b3).2.2.2.2.2; have tA : ∀ o, (w1.alloc o).cell? ⟨w.heap.size + 2, 5, none⟩ = some out := fun o => (cells6 (blk_alloc HV.out.2.2.2.2.2.2.b3 o)).2.2.2.2.2; clear hM hct hb1
          refine hK.out _ _ (HS.out _ HB1.out) (fun hHeld => ?_)
          clear hK K
          try simp only [Act.put, List.setIfInBounds_toArray, List.set_cons_zero, List.set_cons_succ, List.getElem_toArray, List.getElem_cons_zero, List.getElem_cons_succ]
          refine wpAnyH_ready (rs := [10]) (by kernel_rfl) (by simp) ?_
          refine AllReadyH.cons (o := _) rfl (fun K hK => ?_) AllReadyH.nil
          go_simp
          refine hK.out _ _ (HS.out _ (HB1.out.alloc (Nat.le_trans hsz HB1.out.size) _)) (fun hHeld => ?_)
          clear hK K
          try simp only [Act.put, List.setIfInBounds_toArray, List.set_cons_zero, List.set_cons_succ, List.getElem_toArray, List.getElem_cons_zero, List.getElem_cons_succ]
          refine wpAnyH_ready (rs := [11]) (by kernel_rfl) (by simp) ?_
          refine AllReadyH.cons (o := _) rfl (fun K hK => ?_) AllReadyH.nil
          refine Kd.R_append_step kV (w0 := w1) w.heap.size rfl (.tmp 76) (.tmp 85) 24 26 (.agg zero6) 88 rfl Tryz.underlying24 vInfo rfl (by decide) (by omega) out ys y1 _ F _ rfl rfl HV.out.1 HV.out.2.1 HV.out.2.2.1 HV.out.2.2.2.1 HV.out.2.2.2.2.1 HV.out.2.2.2.2.2.1 (by omega) ?_; intro v1 w2 hr2 hb2 hg hat; obtain ⟨Av, cv, rfl⟩ := Kd.R_slice hr2; have HP := Lib.hid (HV.out.2.2.2.2.2.2.push hr2 hg hat); have hz2 := HV.out.2.2.2.2.2.2.third hg; have HB2 := Lib.hid (HV.out.2.2.2.2.2.2.keeps hg HB1.out); have u5 := (cells6 hz2).2.2.2.2.2; have uz := blk_free hz2; clear hr2 hb2 hg hat hz2
          refine hK.out _ _ (HS.out _ HB2.out) (fun hHeld => ?_)
          clear hK K
          try simp only [Act.put, List.setIfInBounds_toArray, List.set_cons_zero, List.set_cons_succ, List.getElem_toArray, List.getElem_cons_zero, List.getElem_cons_succ]
          refine wpAnyH_take (i := 12) (oi := _) (v := ?_) rfl (by kernel_rfl) (by kernel_rfl) (by kernel_rfl) (fun _ _ _ h => h) (Or.inl ⟨by rfl, ?_⟩) (by assumption) ?_; rotate_left 1; · (intro w hSw; (try dsimp only at hSw); go_simp; first | done | with_reducible rfl)
          try simp only [Act.put, List.setIfInBounds_toArray, List.set_cons_zero, List.set_cons_succ, List.getElem_toArray, List.getElem_cons_zero, List.getElem_cons_succ]
          refine wpAnyH_ready (rs := [13]) (by kernel_rfl) (by simp) ?_
          refine AllReadyH.cons (o := _) rfl (fun K hK => ?_) AllReadyH.nil
          go_simp
          refine hK.out _ _ (HS.out _ (HB2.out.setCell (p := ⟨w.heap.size + 2, 5, none⟩) (Nat.le_refl _) _)) (fun hHeld => ?_)
          clear hK K
          try simp only [Act.put, List.setIfInBounds_toArray, List.set_cons_zero, List.set_cons_succ, List.getElem_toArray, List.getElem_cons_zero, List.getElem_cons_succ]
          refine wpAnyH_done (by kernel_rfl) ?_ _
          go_wp2
          go_roundw
          case rel => exact ⟨j + 1, _, ys ++ [y1], by omega, by omega, by go_num, by simp [hys], Lib.hid (fun q hq => by rcases List.mem_append.1 hq with h | h; exact HQ.out q h; rw [List.mem_singleton] at h; rw [h]; exact HCT.out), Lib.hid (cb_len HP.out (by simp [hys]))⟩
          case measure => simp [intOf]; omega
        · go_simp; go_at_call 9; (with_reducible refine HC.out.mono ?_); rintro e w1 ⟨cs1, y1, rfl, hM, hct, hb1⟩; obtain ⟨Q2, q2, Q5, q5, rfl⟩ := m_shape hM; have HV := Lib.hid (HT.out.drewed.app (okk := fun _ => False) hb1 (kidM_new hM hlow) (fun _ h => h.elim) (Nat.le_refl _)); have HCT := Lib.hid hct; have HB1 := Lib.hid (HBr.out.drew.trans (hb1.mono hsz)); have t5 := (cells6 HV.out.2.2.2.2.2.2.b3).2.2.2.2.2; have tA : ∀ o, (w1.alloc o).cell? ⟨w.heap.size + 2, 5, none⟩ = some out := fun o => (cells6 (blk_alloc HV.out.2.2.2.2.2.2.b3 o)).2.2.2.2.2; clear hM hct hb1
          refine hK.out _ _ (HS.out _ HB1.out) (fun hHeld => ?_)
          clear hK K
          try simp only [Act.put, List.setIfInBounds_toArray, List.set_cons_zero, List.set_cons_succ, List.getElem_toArray, List.getElem_cons_zero, List.getElem_cons_succ]
          refine wpAnyH_ready (rs := [1, 10]) (by kernel_rfl) (by simp) ?_
          refine AllReadyH.cons (o := _) rfl (fun K hK => ?_) (AllReadyH.cons (o := _) rfl (fun K hK => ?_) AllReadyH.nil)
          · go_simp
            refine hK.out _ _ (HS.out _ HB1.out) (fun hHeld => ?_)
            clear hK K
            try simp only [Act.put, List.setIfInBounds_toArray, List.set_cons_zero, List.set_cons_succ, List.getElem_toArray, List.getElem_cons_zero, List.getElem_cons_succ]
            refine wpAnyH_ready (rs := [10]) (by kernel_rfl) (by simp) ?_
            refine AllReadyH.cons (o := _) rfl (fun K hK => ?_) AllReadyH.nil
            go_simp
            refine hK.out _ _ (HS.out _ (HB1.out.alloc (Nat.le_trans hsz HB1.out.size) _)) (fun hHeld => ?_)
            clear hK K
            try simp only [Act.put, List.setIfInBounds_toArray, List.set_cons_zero, List.set_cons_succ, List.getElem_toArray, List.getElem_cons_zero, List.getElem_cons_succ]
            refine wpAnyH_ready (rs := [11]) (by kernel_rfl) (by simp) ?_
            refine AllReadyH.cons (o := _) rfl (fun K hK => ?_) AllReadyH.nil
            refine Kd.R_append_step kV (w0 := w1) w.heap.size rfl (.tmp 76) (.tmp 85) 24 26 (.agg zero6) 88 rfl Tryz.underlying24 vInfo rfl (by decide) (by omega) out ys y1 _ F _ rfl rfl HV.out.1 HV.out.2.1 HV.out.2.2.1 HV.out.2.2.2.1 HV.out.2.2.2.2.1 HV.out.2.2.2.2.2.1 (by omega) ?_; intro v1 w2 hr2 hb2 hg hat; obtain ⟨Av, cv, rfl⟩ := Kd.R_slice hr2; have HP := Lib.hid (HV.out.2.2.2.2.2.2.push hr2 hg hat); have hz2 := HV.out.2.2.2.2.2.2.third hg; have HB2 := Lib.hid (HV.out.2.2.2.2.2.2.keeps hg HB1.out); have u5 := (cells6 hz2).2.2.2.2.2; have uz := blk_free hz2; clear hr2 hb2 hg hat hz2
            refine hK.out _ _ (HS.out _ HB2.out) (fun hHeld => ?_)
            clear hK K
            try simp only [Act.put, List.setIfInBounds_toArray, List.set_cons_zero, List.set_cons_succ, List.getElem_toArray, List.getElem_cons_zero, List.getElem_cons_succ]
            refine wpAnyH_take (i := 12) (oi := _) (v := ?_) rfl (by kernel_rfl) (by kernel_rfl) (by kernel_rfl) (fun _ _ _ h => h) (Or.inl ⟨by rfl, ?_⟩) (by assumption) ?_; rotate_left 1; · (intro w hSw; (try dsimp only at hSw); go_simp; first | done | with_reducible rfl)
            try simp only [Act.put, List.setIfInBounds_toArray, List.set_cons_zero, List.set_cons_succ, List.getElem_toArray, List.getElem_cons_zero, List.getElem_cons_succ]
            refine wpAnyH_ready (rs := [13]) (by kernel_rfl) (by simp) ?_
            refine AllReadyH.cons (o := _) rfl (fun K hK => ?_) AllReadyH.nil
            go_simp
            refine hK.out _ _ (HS.out _ (HB2.out.setCell (p := ⟨w.heap.size + 2, 5, none⟩) (Nat.le_refl _) _)) (fun hHeld => ?_)
            clear hK K
            try simp only [Act.put, List.setIfInBounds_toArray, List.set_cons_zero, List.set_cons_succ, List.getElem_toArray, List.getElem_cons_zero, List.getElem_cons_succ]
            refine wpAnyH_done (by kernel_rfl) ?_ _
            go_wp2
            go_roundw
            case rel => exact ⟨j + 1, _, ys ++ [y1], by omega, by omega, by go_num, by simp [hys], Lib.hid (fun q hq => by rcases List.mem_append.1 hq with h | h; exact HQ.out q h; rw [List.mem_singleton] at h; rw [h]; exact HCT.out), Lib.hid (cb_len HP.out (by simp [hys]))⟩
            case measure => simp [intOf]; omega
          · go_simp
            refine hK.out _ _ (HS.out _ (HB1.out.alloc (Nat.le_trans hsz HB1.out.size) _)) (fun hHeld => ?_)
            clear hK K
            try simp only [Act.put, List.setIfInBounds_toArray, List.set_cons_zero, List.set_cons_succ, List.getElem_toArray, List.getElem_cons_zero, List.getElem_cons_succ]
            refine wpAnyH_ready (rs := [1]) (by kernel_rfl) (by simp) ?_
            refine AllReadyH.cons (o := _) rfl (fun K hK => ?_) AllReadyH.nil
            go_simp
            refine hK.out _ _ (HS.out _ (HB1.out.alloc (Nat.le_trans hsz HB1.out.size) _)) (fun hHeld => ?_)
            clear hK K
            try simp only [Act.put, List.setIfInBounds_toArray, List.set_cons_zero, List.set_cons_succ, List.getElem_toArray, List.getElem_cons_zero, List.getElem_cons_succ]
            refine wpAnyH_ready (rs := [11]) (by kernel_rfl) (by simp) ?_
            refine AllReadyH.cons (o := _) rfl (fun K hK => ?_) AllReadyH.nil
            refine Kd.R_append_step kV (w0 := w1) w.heap.size rfl (.tmp 76) (.tmp 85) 24 26 (.agg zero6) 88 rfl Tryz.underlying24 vInfo rfl (by decide) (by omega) out ys y1 _ F _ rfl rfl HV.out.1 HV.out.2.1 HV.out.2.2.1 HV.out.2.2.2.1 HV.out.2.2.2.2.1 HV.out.2.2.2.2.2.1 (by omega) ?_; intro v1 w2 hr2 hb2 hg hat; obtain ⟨Av, cv, rfl⟩ := Kd.R_slice hr2; have HP := Lib.hid (HV.out.2.2.2.2.2.2.push hr2 hg hat); have hz2 := HV.out.2.2.2.2.2.2.third hg; have HB2 := Lib.hid (HV.out.2.2.2.2.2.2.keeps hg HB1.out); have u5 := (cells6 hz2).2.2.2.2.2; have uz := blk_free hz2; clear hr2 hb2 hg hat hz2
            refine hK.out _ _ (HS.out _ HB2.out) (fun hHeld => ?_)
            clear hK K
            try simp only [Act.put, List.setIfInBounds_toArray, List.set_cons_zero, List.set_cons_succ, List.getElem_toArray, List.getElem_cons_zero, List.getElem_cons_succ]
            refine wpAnyH_take (i := 12) (oi := _) (v := ?_) rfl (by kernel_rfl) (by kernel_rfl) (by kernel_rfl) (fun _ _ _ h => h) (Or.inl ⟨by rfl, ?_⟩) (by assumption) ?_; rotate_left 1; · (intro w hSw; (try dsimp only at hSw); go_simp; first | done | with_reducible rfl)
            try simp only [Act.put, List.setIfInBounds_toArray, List.set_cons_zero, List.set_cons_succ, List.getElem_toArray, List.getElem_cons_zero, List.getElem_cons_succ]
            refine wpAnyH_ready (rs := [13]) (by kernel_rfl) (by simp) ?_
            refine AllReadyH.cons (o := _) rfl (fun K hK => ?_) AllReadyH.nil
            go_simp
            refine hK.out _ _ (HS.out _ (HB2.out.setCell (p := ⟨w.heap.size + 2, 5, none⟩) (Nat.le_refl _) _)) (fun hHeld => ?_)
            clear hK K
            try simp only [Act.put, List.setIfInBounds_toArray, List.set_cons_zero, List.set_cons_succ, List.getElem_toArray, List.getElem_cons_zero, List.getElem_cons_succ]
            refine wpAnyH_done (by kernel_rfl) ?_ _
            go_wp2
            go_roundw
            case rel => exact ⟨j + 1, _, ys ++ [y1], by omega, by omega, by go_num, by simp [hys], Lib.hid (fun q hq => by rcases List.mem_append.1 hq with h | h; exact HQ.out q h; rw [List.mem_singleton] at h; rw [h]; exact HCT.out), Lib.hid (cb_len HP.out (by simp [hys]))⟩
            case measure => simp [intOf]; omega
      · obtain ⟨Ao, Lo, co, rfl⟩ : ∃ A L c, out = .slice A L c := by obtain ⟨A, c, e⟩ := Kd.R_slice HT.out.row; exact ⟨A, _, c, e⟩
        obtain ⟨z0, z1, z2, z3, z4, z5⟩ := cells6 HT.out.b1
        obtain ⟨y0, y1, y2, y3, y4, y5⟩ := cells6 HT.out.b2
        obtain ⟨x0, x1, x2, x3, x4, x5⟩ := cells6 HT.out.b3
        have yz := blk_free HT.out.b2
        by_cases hl1 : j < n5
        all_goals
          have hl2 : ¬ ((j : Int) < n5) ∨ ¬ ((j : Int) < 8) := by omega
          first
            | have hl3 : ¬ ((j : Int) < 8) := by omega
            | have hl4 : ¬ ((j : Int) < n5) := by omega
          go_wp2
          refine bodyPost_ret (v := .agg #[.int .i64 7, .bool false, .slice none 0 0, .int .u64 0, .string ⟨#[]⟩, .slice Ao Lo co]) (by simp [results, Tryz.results9, go_sem, y0, y1, y2, y3, y4, y5]) rfl ?_
          obtain ⟨hM, hb⟩ := HT.out.final (.int .i64 7) (.bool false) (.slice none 0 0) (.int .u64 0) (.string ⟨#[]⟩) (.slice Ao Lo co)
          exact ⟨_, ⟨7, false, [], 0, ⟨#[]⟩, ys⟩, rfl, Kd.M_mono _ (fun q hq => trivial) hM, Or.inr ⟨⟨rfl, rfl, rfl, rfl⟩, (by show ys.length ≤ 16; omega), HQ.out, by first | exact Or.inl rfl | exact Or.inr (Or.inl rfl)⟩, hb⟩
theorem findV_none {E : VT → VT → Bool} {ys : List VT} {key : VT} {step : Nat} (hs : 0 < step) (h : findV E ys step key = none) : ∀ a (ha : a * step < ys.length), E ys[a * step] key = false := by
  have := findE_by E key ys step hs ys.length 0 0 (by omega) (by omega) (fun q h1 h2 => absurd h2 (Nat.not_lt_zero _))
  unfold findV at h
  rw [h] at this
  rcases this with ⟨_, hn⟩ | ⟨k, hk, e, _⟩
  · exact fun a ha => hn a ha ha
  · exact absurd e (by simp; omega)
theorem findR_lt {ys : List VT} {key : VT} {step : Nat} {r : Int} (hs : 0 < step) (hr : findR EQ ys step key = r) (hlt : r < 0) : ∀ a (ha : a * step < ys.length), EQ ys[a * step] key = false := by
  have h := findR_neg EQ ys step key
  rw [hr] at h
  have : findV EQ ys step key = none := by
    cases hh : findV EQ ys step key with
    | none => rfl
    | some j => rw [hh] at h; simp at h; omega
  exact findV_none hs this
theorem dist2_push {ys : List VT} {k v : VT} (h : Dist 2 ys) (he : ys.length % 2 = 0) (hn : ∀ a (ha : a * 2 < ys.length), EQ ys[a * 2] k = false) : Dist 2 (ys ++ [k, v]) := by
  intro a b hb hab
  have hb' : b * 2 < ys.length + 2 := by simpa using hb
  by_cases h1 : b * 2 < ys.length
  · have e1 : (ys ++ [k, v])[a * 2]'(by simp; omega) = ys[a * 2]'(by omega) := List.getElem_append_left _
    have e2 : (ys ++ [k, v])[b * 2]'hb = ys[b * 2] := List.getElem_append_left _
    rw [e1, e2]
    exact h a b h1 hab
  · have hbe : b * 2 = ys.length := by omega
    have e1 : (ys ++ [k, v])[a * 2]'(by simp; omega) = ys[a * 2]'(by omega) := List.getElem_append_left _
    have e2 : (ys ++ [k, v])[b * 2]'hb = k := by
      rw [List.getElem_append_right (by omega)]
      simp [hbe]
    rw [e1, e2]
    exact hn a (by omega)
theorem dist1_push {ys : List VT} {k : VT} (h : Dist 1 ys) (hn : ∀ a (ha : a * 1 < ys.length), EQ ys[a * 1] k = false) : Dist 1 (ys ++ [k]) := by
  intro a b hb hab
  have hb' : b * 1 < ys.length + 1 := by simpa using hb
  by_cases h1 : b * 1 < ys.length
  · have e1 : (ys ++ [k])[a * 1]'(by simp; omega) = ys[a * 1]'(by omega) := List.getElem_append_left _
    have e2 : (ys ++ [k])[b * 1]'hb = ys[b * 1] := List.getElem_append_left _
    rw [e1, e2]
    exact h a b h1 hab
  · have hbe : b * 1 = ys.length := by omega
    have e1 : (ys ++ [k])[a * 1]'(by simp; omega) = ys[a * 1]'(by omega) := List.getElem_append_left _
    have e2 : (ys ++ [k])[b * 1]'hb = k := by
      rw [List.getElem_append_right (by omega)]
      simp [hbe]
    rw [e1, e2]
    exact hn a (by omega)
structure Pairs (m : Nat) (ys : List VT) : Prop where
  ct : ∀ y ∈ ys, CT m y
  even : ys.length % 2 = 0
  hk : ∀ i (h : i * 2 < ys.length), HkT m ys[i * 2]
  dist : Dist 2 ys
theorem Pairs.nil (m : Nat) : Pairs m [] := ⟨(by intro y h; cases h), rfl, fun i h => absurd h (Nat.not_lt_zero _), fun a b h => absurd h (Nat.not_lt_zero _)⟩
theorem Pairs.push {m : Nat} {ys : List VT} {k v : VT} (h : Pairs m ys) (ck : CT m k) (hk : HkT m k) (cv : CT m v) (hn : ∀ a (ha : a * 2 < ys.length), EQ ys[a * 2] k = false) : Pairs m (ys ++ [k, v]) := by
  have he := h.even
  refine ⟨fun y hy => ?_, by simp; omega, fun i hi => ?_, dist2_push h.dist h.even hn⟩
  · rcases List.mem_append.1 hy with hy | hy
    · exact h.ct y hy
    · rcases List.mem_cons.1 hy with rfl | hy
      · exact ck
      · rw [List.mem_singleton] at hy; rw [hy]; exact cv
  · have hi' : i * 2 < ys.length + 2 := by simpa using hi
    by_cases h1 : i * 2 < ys.length
    · rw [List.getElem_append_left h1]; exact h.hk i h1
    · have hbe : i * 2 = ys.length := by omega
      rw [List.getElem_append_right (by omega)]
      simpa [hbe] using hk
structure Elems (m : Nat) (ys : List VT) : Prop where
  ct : ∀ y ∈ ys, CT m y
  hk : ∀ y ∈ ys, HkT m y
  dist : Dist 1 ys
theorem Elems.nil (m : Nat) : Elems m [] := ⟨(by intro y h; cases h), (by intro y h; cases h), fun a b h => absurd h (Nat.not_lt_zero _)⟩
theorem Elems.push {m : Nat} {ys : List VT} {k : VT} (h : Elems m ys) (ck : CT m k) (hk : HkT m k) (hn : ∀ a (ha : a * 1 < ys.length), EQ ys[a * 1] k = false) : Elems m (ys ++ [k]) := by
  refine ⟨fun y hy => ?_, fun y hy => ?_, dist1_push h.dist hn⟩
  · rcases List.mem_append.1 hy with hy | hy
    · exact h.ct y hy
    · rw [List.mem_singleton] at hy; rw [hy]; exact ck
  · rcases List.mem_append.1 hy with hy | hy
    · exact h.hk y hy
    · rw [List.mem_singleton] at hy; rw [hy]; exact hk
theorem two_rows {w : World} {B : Nat} {okp : Nat → Prop} {k v : VT} {kc vc : List Value} (hk : kV.M w B okp k kc) (hv : kV.M w B okp v vc) : ReadsRow (kV.M (w.alloc (.cells (kc ++ vc).toArray 26)) B okp) 6 (w.alloc (.cells (kc ++ vc).toArray 26)) (some ⟨w.heap.size, 0, none⟩) 2 [k, v] := by
  have lk : kc.length = 6 := kV.K_len (kV.K_of_M hk)
  have lv : vc.length = 6 := kV.K_len (kV.K_of_M hv)
  have hb : Below w.heap.size w (w.alloc (.cells (kc ++ vc).toArray 26)) := (Below.refl _ w).alloc (Nat.le_refl _) _
  have hc : ∀ i u, (kc ++ vc)[i]? = some u → (w.alloc (.cells (kc ++ vc).toArray 26)).cell? ⟨w.heap.size, i, none⟩ = some u := fun i u hu => by
    rw [blk_cell (blk_new w _)]
    simpa using hu
  refine ⟨rfl, by decide, fun _ => ⟨_, rfl, fun j p hj => ?_⟩⟩
  rcases j with _ | _ | j
  · simp only [List.getElem?_cons_zero, Option.some.injEq] at hj
    subst hj
    refine ⟨kc, lk, Kd.M_below hk hb, fun i u hu => ?_⟩
    have hi := (List.getElem?_eq_some_iff.1 hu).1
    rw [add_off]
    exact hc _ u (by rw [Nat.zero_mul, Nat.zero_add, List.getElem?_append_left hi]; exact hu)
  · simp only [List.getElem?_cons_succ, List.getElem?_cons_zero, Option.some.injEq] at hj
    subst hj
    refine ⟨vc, lv, Kd.M_below hv hb, fun i u hu => ?_⟩
    rw [add_off]
    exact hc _ u (by rw [List.getElem?_append_right (by omega), lk]; rw [show (0 + 1) * 6 + i - 6 = i by omega]; exact hu)
  · simp at hj
theorem findKids_c (m : Nat) (hm : m ≤ 8) (A : Option Addr) (c : Nat) (ys : List VT) (y : VT) (v : Value) (step : Nat) (w : World) (h : kV.C w A ys.length ys) (hy : VR w v y) (hn : ys.length ≤ 1000000) (hs : step = 1 ∨ step = 2) (hc : ∀ k ∈ ys, CT m k) (hcy : CT m y) :
    Calls Tryz.prog 53 #[.slice A ys.length c, .int .i64 step, v] w fun e w' => e = .returned (.int .i64 (findR EQ ys step y)) ∧ Below w.heap.size w w' :=
  treeFind_c EQ A c ys y v step w h hy hn hs fun W _ i hi u v' h1 h2 => treeEq_c 9 _ _ _ _ W h1 h2 ((hc _ (List.getElem_mem hi)).ok9 hm) (hcy.ok9 hm)
set_option maxRecDepth 100000 in
set_option maxHeartbeats 1000000 in
theorem cleanSet_c (m : Nat) (hm8 : m ≤ 8) (d d' : Int) (hdd : d - 1 = d') (hw : IntKind.i64.wrap d' = d') (x : VT) (A2 : Option Addr) (c2 : Nat) (A5 : Option Addr) (n5 c5 : Nat) (w : World) (h : RawN (m + 1) w x A2 c2 A5 n5 c5)
    (ih : ∀ (x : VT) (A2 : Option Addr) (c2 : Nat) (A5 : Option Addr) (n5 c5 : Nat) (w : World), RawN m w x A2 c2 A5 n5 c5 → Calls Tryz.prog 9 #[.agg (six5 x A2 c2 A5 n5 c5), .int .i64 d'] w (CleanN m w)) :
    Calls Tryz.prog 26 #[.agg (six5 x A2 c2 A5 n5 c5), .int .i64 d] w (CleanN (m + 1) w) := by
  obtain ⟨a0, a1, a2, a3, a4, a5⟩ := x
  dsimp only [six5] at *
  have HKM := Lib.hid h.2.2
  have hn5 : n5 ≤ 9223372036854775807 := h.2.1
  have HIH := Lib.hid ih
  obtain ⟨F, hF⟩ : ∃ F : Nat → Prop, F = fun j => w.heap.size + 3 ≤ j := ⟨_, rfl⟩
  have hF1 : ∀ j, F j → Free w.heap.size j := by rw [hF]; intro j h; exact Or.inr h
  have hF2 : ∀ j, w.heap.size + 3 ≤ j → F j := by rw [hF]; intro j h; exact h
  have hdw : IntKind.i64.wrap (d - 1) = d' := by rw [hdd]; exact hw
  obtain ⟨W0, hW0⟩ : ∃ W, W = (((w.alloc (.cells #[.int .i64 a0, .bool a1, .slice A2 a2.length c2, .int .u64 a3, .string a4, .slice A5 n5 c5] 26)).alloc (.cells zero6 26)).alloc (.cells #[.int .i64 9, .bool false, .slice none 0 0, .int .u64 0, .string ⟨#[]⟩, .slice none 0 0] 26)) := ⟨_, rfl⟩
  have HT0 : Hid (CB w w.heap.size F #[.int .i64 a0, .bool a1, .slice A2 a2.length c2, .int .u64 a3, .string a4, .slice A5 n5 c5] 9 (.slice none 0 0) [] W0) := by rw [hW0]; exact Lib.hid (CB.start w w.heap.size F _ 9 hF1 hF2)
  clear hF hF1 hF2 h ih
  go_enter Tryz.func26, Tryz.ntmps26
  go_wp2_with fail
  rw [← hW0]
  clear hW0
  go_loopw [6] (fun i wr => ∃ (j : Nat) (out : Value) (ys : List VT), j ≤ n5 ∧ j ≤ 8 ∧ i = .int .i64 (j : Int) ∧ ys.length ≤ j ∧ Hid (Elems m ys) ∧ Hid (CB w w.heap.size F #[.int .i64 a0, .bool a1, .slice A2 a2.length c2, .int .u64 a3, .string a4, .slice A5 n5 c5] 9 out ys wr)) (fun i _ => 8 - (intOf i).toNat)
  case atStart => exact ⟨0, _, [], Nat.zero_le _, by omega, rfl, Nat.le_refl _, Lib.hid (Elems.nil m), HT0⟩
  case round =>
    clear HT0
    obtain ⟨j, out, ys, hj, hj8, rfl, hys, HQ, HT⟩ := hrel
    by_cases hlt : j < n5 ∧ j < 8
    · obtain ⟨hl1, hl2⟩ := hlt
      have hl3 : (j : Int) < 8 := by omega
      obtain ⟨b, o, y, P2, p2, P5, m5, p5, rfl, hb, k0, k1, k2, k3, k4, k5, hV⟩ := HKM.out j hl1
      have hB := HT.out.low
      have x0 := (hB.cell (p := ⟨b, o + j * 6, none⟩) hb).trans k0
      have x1 := (hB.cell (p := ⟨b, o + j * 6 + 1, none⟩) hb).trans k1
      have x2 := (hB.cell (p := ⟨b, o + j * 6 + 2, none⟩) hb).trans k2
      have x3 := (hB.cell (p := ⟨b, o + j * 6 + 3, none⟩) hb).trans k3
      have x4 := (hB.cell (p := ⟨b, o + j * 6 + 4, none⟩) hb).trans k4
      have x5 := (hB.cell (p := ⟨b, o + j * 6 + 5, none⟩) hb).trans k5
      have z5 := (cells6 HT.out.b1).2.2.2.2.2
      have hsz3 := HT.out.size
      have hsz : w.heap.size + 2 ≤ wr.heap.size := by omega
      have hlow : w.heap.size ≤ wr.heap.size := by omega
      have HC : Hid (Calls Tryz.prog 9 #[.agg (six5 y P2 p2 P5 m5 p5), .int .i64 d'] wr (CleanN m wr)) := Lib.hid (HIH.out y P2 p2 P5 m5 p5 wr (hV.below hB))
      obtain ⟨Ao, co, rfl, hlo, _⟩ := Kd.R_reads HT.out.row
      clear k0 k1 k2 k3 k4 k5 hV hB
      go_upto_region 6 with (first
          | (go_at_call 9; (with_reducible refine HC.out.mono ?_); rintro e w1 ⟨cs1, y1, rfl, hM, hct, hb1⟩; obtain ⟨Q2, q2, Q5, q5, rfl⟩ := m_shape hM; have HM1 := Lib.hid hM; have HCT := Lib.hid hct; have HB1 := Lib.hid hb1; clear hM hct hb1)
          | (go_at_call 52; (with_reducible refine (key_c m wr.heap.size (fun _ => True) y1 _ w1 HB1.out.size HM1.out HCT.out).mono ?_); rintro e w2 ⟨cs2, y2, rfl, hM, hct, hhk, hb2⟩; obtain ⟨R2, r2, R5, r5, rfl⟩ := m_shape hM; have HM2 := Lib.hid hM; have HK2 := Lib.hid (And.intro hct hhk); have HB2 := Lib.hid (HB1.out.trans (hb2.mono HB1.out.size)); clear hM hct hhk hb2))
      clear x0 x1 x2 x3 x4 x5
      obtain ⟨W3, hW3⟩ : ∃ W, W = w2.alloc (.cells (List.toArray [.int .i64 y2.f0, .bool y2.f1, .slice R2 y2.f2.length r2, .int .u64 y2.f3, .string y2.f4, .slice R5 y2.f5.length r5]) 26) := ⟨_, rfl⟩
      have HB3 : Hid (Below wr.heap.size wr W3) := by rw [hW3]; exact Lib.hid (HB2.out.alloc HB2.out.size _)
      have HN3 : Hid (W3.heap[w2.heap.size]? = some (.cells (List.toArray [.int .i64 y2.f0, .bool y2.f1, .slice R2 y2.f2.length r2, .int .u64 y2.f3, .string y2.f4, .slice R5 y2.f5.length r5]) 26 (0, 0))) := by rw [hW3]; exact Lib.hid (blk_new _ _)
      have HM3 : Hid (kV.M W3 wr.heap.size (fun _ => True) y2 [.int .i64 y2.f0, .bool y2.f1, .slice R2 y2.f2.length r2, .int .u64 y2.f3, .string y2.f4, .slice R5 y2.f5.length r5]) := by rw [hW3]; exact Lib.hid (Kd.M_below (Kd.M_mono _ (fun _ _ => trivial) HM2.out) ((Below.refl _ _).alloc (Nat.le_refl _) _))
      rw [← hW3]
      clear hW3
      have HT3 := Lib.hid (HT.out.below HB3.out)
      obtain ⟨x0, x1, x2, x3, x4, x5⟩ := cells6 HT3.out.b3
      obtain ⟨q0, q1, q2', q3, q4, q5'⟩ := cells6 HN3.out
      have HFC : Hid (Calls Tryz.prog 53 #[.slice Ao ys.length co, .int .i64 1, .agg (List.toArray [.int .i64 y2.f0, .bool y2.f1, .slice R2 y2.f2.length r2, .int .u64 y2.f3, .string y2.f4, .slice R5 y2.f5.length r5])] W3 fun e w' => e = .returned (.int .i64 (findR EQ ys 1 y2)) ∧ Below W3.heap.size W3 w') := Lib.hid (by
        obtain ⟨A', c', e', _, hC'⟩ := Kd.R_reads HT3.out.row
        cases e'
        exact findKids_c m hm8 Ao co ys y2 _ 1 W3 hC' ⟨_, rfl, kV.K_of_M HM3.out⟩ (by omega) (by decide) HQ.out.ct HK2.out.1)
      obtain ⟨r, hr⟩ : ∃ r, findR EQ ys 1 y2 = r := ⟨_, rfl⟩
      have HLT := Lib.hid (fun h => findR_lt (r := r) (by decide) hr h)
      rw [hr] at HFC
      clear hr
      by_cases hneg : r < 0
      · go_upto_region 7 with (first | (go_at_call 53; (with_reducible refine HFC.out.mono ?_); rintro e w4 ⟨rfl, hb4⟩; have HB4 := Lib.hid (HB3.out.trans (hb4.mono HB3.out.size)); have HN4 := Lib.hid (blk_below HN3.out hb4); have HM4 := Lib.hid (Kd.M_below HM3.out hb4); have HT4 := Lib.hid (HT3.out.below hb4); clear hb4))
        clear x0 x1 x2 x3 x4 x5 q0 q1 q2' q3 q4 q5'
        obtain ⟨x0, x1, x2, x3, x4, x5⟩ := cells6 HT4.out.b3
        obtain ⟨q0, q1, q2', q3, q4, q5'⟩ := cells6 HN4.out
        have HV := Lib.hid (HT.out.app (okk := fun _ => False) HB4.out (kidM_new HM4.out hlow) (fun _ h => h.elim) (Nat.le_refl _))
        go_wp2_with (first
          | (at_builtin; refine Kd.R_append kV (w0 := w4) w.heap.size rfl _ _ 24 26 (.agg zero6) 88 rfl Tryz.underlying24 vInfo rfl (by decide) (by omega) (.slice Ao ys.length co) ys y2 _ F _ rfl rfl HV.out.1 HV.out.2.1 HV.out.2.2.1 HV.out.2.2.2.1 HV.out.2.2.2.2.1 HV.out.2.2.2.2.2.1 (by omega) ?_; intro v1 w5 hr2 hb2 hg hat; obtain ⟨Av, cv, rfl⟩ := Kd.R_slice hr2; have HP := Lib.hid (HT4.out.push hr2 hg hat); have hz2 := HT4.out.third hg; have u5 := (cells6 hz2).2.2.2.2.2; have uz := blk_free hz2; clear hr2 hb2 hg hat hz2))
        go_roundw
        case rel => exact ⟨j + 1, _, ys ++ [y2], by omega, by omega, by go_num, by simp; omega, Lib.hid (HQ.out.push HK2.out.1 HK2.out.2 (HLT.out hneg)), Lib.hid (cb_len HP.out (by simp))⟩
        case measure => simp [intOf]; omega
      · go_wp2_with (first | (go_at_call 53; (with_reducible refine HFC.out.mono ?_); rintro e w4 ⟨rfl, hb4⟩; have HB4 := Lib.hid (HB3.out.trans (hb4.mono HB3.out.size)); have HN4 := Lib.hid (blk_below HN3.out hb4); have HM4 := Lib.hid (Kd.M_below HM3.out hb4); have HT4 := Lib.hid (HT3.out.below hb4); clear hb4))
        go_roundw
        case rel => exact ⟨j + 1, _, ys, by omega, by omega, by go_num, by omega, HQ, HT4⟩
        case measure => simp [intOf]; omega
    · obtain ⟨Ao, Lo, co, rfl⟩ : ∃ A L c, out = .slice A L c := by obtain ⟨A, c, e⟩ := Kd.R_slice HT.out.row; exact ⟨A, _, c, e⟩
      obtain ⟨z0, z1, z2, z3, z4, z5⟩ := cells6 HT.out.b1
      obtain ⟨y0, y1, y2, y3, y4, y5⟩ := cells6 HT.out.b2
      obtain ⟨x0, x1, x2, x3, x4, x5⟩ := cells6 HT.out.b3
      have yz := blk_free HT.out.b2
      by_cases hl1 : j < n5
      all_goals
        have hl2 : ¬ ((j : Int) < n5) ∨ ¬ ((j : Int) < 8) := by omega
        first
          | have hl3 : ¬ ((j : Int) < 8) := by omega
          | have hl4 : ¬ ((j : Int) < n5) := by omega
        go_wp2
        refine bodyPost_ret (v := .agg #[.int .i64 9, .bool false, .slice none 0 0, .int .u64 0, .string ⟨#[]⟩, .slice Ao Lo co]) (by simp [results, Tryz.results26, go_sem, y0, y1, y2, y3, y4, y5]) rfl ?_
        obtain ⟨hM, hb⟩ := HT.out.final (.int .i64 9) (.bool false) (.slice none 0 0) (.int .u64 0) (.string ⟨#[]⟩) (.slice Ao Lo co)
        exact ⟨_, ⟨9, false, [], 0, ⟨#[]⟩, ys⟩, rfl, Kd.M_mono _ (fun q hq => trivial) hM, Or.inr ⟨⟨rfl, rfl, rfl, rfl⟩, (by show ys.length ≤ 16; omega), HQ.out.ct, Or.inr (Or.inr (Or.inr ⟨rfl, (by show ys.length ≤ 8; omega), HQ.out.hk, HQ.out.dist⟩))⟩, hb⟩
def KE : Nat := 1074
theorem KE_eq : KE = 1074 := rfl
def KN : Nat := 2 ^ KE
theorem two_npos (n : Nat) : 0 < 2 ^ n := Nat.pow_pos (by decide)
theorem KN_pos : 0 < KN := two_npos KE
theorem KI_pos : (0 : Int) < (KN : Int) := by have := KN_pos; omega
theorem KN_split (u : Nat) (h : u ≤ 1074) : KN = 2 ^ u * 2 ^ (1074 - u) := by
  have := KE_eq
  unfold KN
  rw [← Nat.pow_add]
  congr 1
  omega
theorem KI_split (u : Nat) (h : u ≤ 1074) : (KN : Int) = 2 ^ u * 2 ^ (1074 - u) := by
  rw [KN_split u h, Int.natCast_mul, Int.natCast_pow, Int.natCast_pow]
  rfl
inductive NK where
  | num (v : Int) | inf (s : Bool) | nan
def fworth (b : Nat) : NK :=
  match fdat b with
  | .number s m p => .num (smag s m * 2 ^ (p + 1074).toNat)
  | .infinity s => .inf s
  | .nan _ _ => .nan
inductive SK where
  | none | bool (b : Bool) | num (k : NK) | str (s : ByteArray) | bytes (s : ByteArray)
def skey : Sca → SK
  | .none => .none
  | .bool b => .bool b
  | .int x => .num (.num (x * (KN : Int)))
  | .float b => .num (fworth b)
  | .str s => .str s
  | .bytes s => .bytes s
theorem sgn_zero (x : Int) : (sgn x == 0) = true ↔ x = 0 := by
  unfold sgn
  constructor
  · intro h
    split at h
    · simp at h
    · split at h
      · assumption
      · simp at h
  · rintro rfl
    rfl
theorem neg_beq (x : Int) : ((-x) == 0) = (x == 0) := by
  rw [Bool.eq_iff_iff]; simp
theorem scale_eq {a b c : Int} (h : 0 < c) : a = b ↔ a * c = b * c := ⟨fun e => by rw [e], fun e => Int.eq_of_mul_eq_mul_right (by omega) e⟩
theorem icmp_key (x : Int) (b : Nat) (hb : b < 18446744073709551616) : (icmpF x b == 0) = true ↔ NK.num (x * (KN : Int)) = fworth b := by
  rcases fcase b hb with ⟨s, m, p, h, hs, hm, hp, hp2, h0⟩ | ⟨s, h, hs⟩ | ⟨s, f, h⟩
  · unfold icmpF fworth
    rw [h]
    simp only [NK.num.injEq]
    rw [sgn_zero]
    have e2 : (p + 1074).toNat = p.toNat + (1074 - (-p).toNat) := by omega
    have hpos : (0 : Int) < 2 ^ (1074 - (-p).toNat) := Int.pow_pos (by decide)
    rw [e2, Int.pow_add, KI_split (-p).toNat (by omega), ← Int.mul_assoc, ← Int.mul_assoc, ← scale_eq hpos]
    omega
  · unfold icmpF fworth
    rw [h]
    cases s <;> simp
  · unfold icmpF fworth
    rw [h]
    simp
theorem cmp_eq_iff (x y : Int) : compare x y = .eq ↔ x = y := by
  simp only [compare, compareOfLessAndEq]
  split
  · simp; omega
  · split
    · simp; assumption
    · simp; assumption
theorem fcmp_key (a b : Nat) (ha : a < 18446744073709551616) (hb : b < 18446744073709551616) : (fcmpF a b == 0) = true ↔ fworth a = fworth b := by
  unfold fcmpF
  rw [ord_dat]
  rcases fcase a ha with ⟨s, m, p, h, hs, hm, hp, hp2, h0⟩ | ⟨s, h, hs⟩ | ⟨s, f, h⟩ <;> rcases fcase b hb with ⟨t, n, q, k, ks, km, kp, kp2, k0⟩ | ⟨t, k, ks⟩ | ⟨t, g, k⟩ <;> unfold fworth <;> rw [h, k]
  · show (fcmpO (some (compare (Ieee.signed s m (p - min p q).toNat) (Ieee.signed t n (q - min p q).toNat))) false false == 0) = true ↔ _
    simp only [NK.num.injEq]
    rw [signed_eq, signed_eq]
    have hpos : (0 : Int) < 2 ^ (min p q + 1074).toNat := Int.pow_pos (by decide)
    have e1 : (p + 1074).toNat = (p - min p q).toNat + (min p q + 1074).toNat := by omega
    have e2 : (q + 1074).toNat = (q - min p q).toNat + (min p q + 1074).toNat := by omega
    rw [e1, e2, Int.pow_add, Int.pow_add, ← Int.mul_assoc, ← Int.mul_assoc, ← scale_eq hpos, ← cmp_eq_iff]
    generalize compare (smag s m * 2 ^ (p - min p q).toNat) (smag t n * 2 ^ (q - min p q).toNat) = o
    cases o <;> simp [fcmpO]
  · show (fcmpO (some (if t then Ordering.gt else .lt)) false false == 0) = true ↔ _
    cases t <;> simp [fcmpO]
  · show (fcmpO none false true == 0) = true ↔ _
    simp [fcmpO]
  · show (fcmpO (some (if s then Ordering.lt else .gt)) false false == 0) = true ↔ _
    cases s <;> simp [fcmpO]
  · show (fcmpO (some (compare t.toNat s.toNat)) false false == 0) = true ↔ _
    cases s <;> cases t <;> simp [fcmpO] <;> decide
  · show (fcmpO none false true == 0) = true ↔ _
    simp [fcmpO]
  · show (fcmpO none true false == 0) = true ↔ _
    simp [fcmpO]
  · show (fcmpO none true false == 0) = true ↔ _
    simp [fcmpO]
  · show (fcmpO none true true == 0) = true ↔ _
    simp [fcmpO]
theorem ba_beq (a b : ByteArray) : (a == b) = true ↔ a = b := by
  have h1 : (a == b) = (a.data == b.data) := rfl
  rw [h1, beq_iff_eq]
  exact ⟨fun h => ByteArray.ext h, fun h => by rw [h]⟩
theorem eqS_key (s t : Sca) (hs : s.fit) (ht : t.fit) : eqS s t = true ↔ skey s = skey t := by
  cases s <;> cases t
  case int.int x y =>
    show (sgn (x - y) == 0) = true ↔ SK.num (.num (x * (KN : Int))) = .num (.num (y * (KN : Int)))
    rw [sgn_zero, SK.num.injEq, NK.num.injEq, ← scale_eq KI_pos]
    omega
  case int.float x b =>
    show (icmpF x b == 0) = true ↔ SK.num (.num (x * (KN : Int))) = .num (fworth b)
    rw [icmp_key x b ht, SK.num.injEq]
  case float.int b x =>
    show ((- icmpF x b) == 0) = true ↔ SK.num (fworth b) = .num (.num (x * (KN : Int)))
    rw [neg_beq, icmp_key x b hs, SK.num.injEq]
    exact eq_comm
  case float.float a b =>
    show (fcmpF a b == 0) = true ↔ SK.num (fworth a) = .num (fworth b)
    rw [fcmp_key a b hs ht, SK.num.injEq]
  case bytes.bytes a b =>
    rw [eqS_bytes, ba_beq]
    simp [skey]
  case str.str a b =>
    show (a == b) = true ↔ _
    rw [ba_beq]
    simp [skey]
  all_goals simp [eqS, skey]
def truncF (s : Bool) (m : Nat) (p : Int) : Int := smag s (m * 2 ^ p.toNat / 2 ^ (-p).toNat)
theorem trunc_worth (s : Bool) (m : Nat) (p : Int) (hp : -1074 ≤ p) : truncF s m p = (smag s m * 2 ^ (p + 1074).toNat).tdiv (KN : Int) := by
  have e2 : (p + 1074).toNat = p.toNat + (1074 - (-p).toNat) := by omega
  have hpos : 0 < 2 ^ (1074 - (-p).toNat) := Nat.pow_pos (by decide)
  have hn : m * 2 ^ (p + 1074).toNat / KN = m * 2 ^ p.toNat / 2 ^ (-p).toNat := by
    rw [e2, Nat.pow_add, ← Nat.mul_assoc, KN_split (-p).toNat (by omega)]
    exact Nat.mul_div_mul_right _ _ hpos
  have hc : (m * 2 ^ (p + 1074).toNat : Int).tdiv (KN : Int) = ((m * 2 ^ p.toNat / 2 ^ (-p).toNat : Nat) : Int) := by
    rw [← hn, Int.ofNat_tdiv, Int.natCast_mul, Int.natCast_pow]
    rfl
  unfold truncF smag
  cases s
  · rw [if_neg (by simp), if_neg (by simp), ← hc]
  · rw [if_pos rfl, if_pos rfl, Int.neg_mul, Int.neg_tdiv, ← hc]
def hashLo (lo : Int) : Int := IntKind.u32.wrap (12582917 * IntKind.u32.wrap (IntKind.u64.wrap (lo + 3)))
def loZ (x : Int) : Int := if sml x then IntKind.u64.wrap x else (x.natAbs : Int) % 18446744073709551616
def hashZ (x : Int) : Int := hashLo (loZ x)
theorem wrap32 (x : Int) : IntKind.u32.wrap x = x % 4294967296 := by simp [IntKind.wrap, IntKind.bits, IntKind.signed]
def fnvStep (h : Int) (c : UInt8) : Int := IntKind.u32.wrap (bits .xor .u32 h (c.toNat : Int) * 16777619)
def fnv (s : ByteArray) : Int := s.data.toList.foldl fnvStep 2166136261
def hashF (b : Nat) : Int :=
  match fdat b with
  | .number s m p => hashZ (truncF s m p)
  | _ => 1618033
def hashS : Sca → Int
  | .none => 0
  | .bool b => if b then 1 else 0
  | .int x => hashZ x
  | .float b => hashF b
  | .str s => fnv s
  | .bytes s => fnv s
theorem eqS_symm (s t : Sca) (hs : s.fit) (ht : t.fit) : eqS s t = eqS t s := by
  rw [Bool.eq_iff_iff, eqS_key s t hs ht, eqS_key t s ht hs]
  exact eq_comm
def HC : Nat → VT → Prop
  | 0, y => SC y
  | n + 1, y => SC y ∨ (Box y ∧ y.f0 = 7 ∧ y.f5.length ≤ 16 ∧ ∀ k ∈ y.f5, HC n k)
theorem hc_of : ∀ {n : Nat} {y : VT}, CT n y → HkT n y → HC n y
  | 0, y, h, _ => h
  | n + 1, y, h, k => by
    rcases h with h | ⟨hb, hl, hk, hc⟩
    · exact Or.inl h
    · rcases k with k | ⟨k7, kk⟩
      · exfalso
        omega
      · exact Or.inr ⟨hb, k7, hl, fun q hq => hc_of (hk q hq) (kk q hq)⟩
theorem HC.cases {n : Nat} {y : VT} (h : HC n y) : SC y ∨ (y.f0 = 7 ∧ Box y ∧ y.f5.length ≤ 16 ∧ ∃ m, n = m + 1 ∧ ∀ k ∈ y.f5, HC m k) := by
  cases n with
  | zero => exact Or.inl h
  | succ n =>
    rcases h with h | ⟨hb, h7, hl, hk⟩
    · exact Or.inl h
    · exact Or.inr ⟨h7, hb, hl, n, rfl, hk⟩
theorem HC.sc {y : VT} (h : SC y) : ∀ n, HC n y
  | 0 => h
  | n + 1 => Or.inl h
theorem eqV_sca {s t : Sca} {x y : VT} (m : Nat) (hx : Canon s x) (hy : Canon t y) : eqV (m + 1) x y = eqS s t := by
  unfold eqV
  by_cases hn : isNum x = true ∧ isNum y = true
  · rw [if_pos (by rw [hn.1, hn.2]; rfl)]
    exact canon_ncmp hx hy hn.1 hn.2
  · have hn' : (isNum x && isNum y) = false := by
      rw [Bool.and_eq_false_iff]
      by_cases h1 : isNum x = true
      · exact Or.inr (by simpa using fun h => hn ⟨h1, h⟩)
      · exact Or.inl (by simpa using h1)
    rw [if_neg (by rw [hn']; decide)]
    have h5x := hx.kids
    have h5y := hy.kids
    have hkx := hx.kind
    have hky := hy.kind
    have cx := canon_num hx
    have cy := canon_num hy
    by_cases hk : s.kind = t.kind
    · rw [if_neg (by rw [hkx, hky, hk, h5x, h5y]; simp)]
      cases s <;> cases t <;> simp [Sca.kind] at hk hkx hky
      · rw [if_pos hkx]; rfl
      · rw [if_neg (by omega), if_pos hkx, (canon_bool hx).2, (canon_bool hy).2]
        rename_i a b
        cases a <;> cases b <;> rfl
      · exfalso; exact hn ⟨by rw [cx]; rfl, by rw [cy]; rfl⟩
      · exfalso; exact hn ⟨by rw [cx]; rfl, by rw [cy]; rfl⟩
      · rw [if_neg (by omega), if_neg (by omega), if_neg (by omega), if_neg (by omega), h5x, h5y, (canon_str hx).2, (canon_str hy).2]
        simp [all2, eqS]
      · rw [if_neg (by omega), if_neg (by omega), if_neg (by omega), if_neg (by omega), h5x, h5y, (canon_bytes hx).2, (canon_bytes hy).2, eqS_bytes]
        simp [all2]
    · rw [if_pos (Or.inl (by rw [hkx, hky]; omega))]
      exact (eqS_other hk (fun ⟨q1, q2⟩ => hn ⟨by rw [cx]; rcases q1 with q | q <;> simp [q], by rw [cy]; rcases q2 with q | q <;> simp [q]⟩)).symm
theorem eqV_far {x y : VT} (m : Nat) (h : (x.f0 < 6 ∧ y.f0 = 7) ∨ (x.f0 = 7 ∧ y.f0 < 6)) : eqV (m + 1) x y = false := by
  unfold eqV isNum
  rw [if_neg, if_pos (Or.inl (by omega))]
  rcases h with ⟨_, h⟩ | ⟨h, _⟩ <;> rw [h] <;> simp
theorem eqV_tup {x y : VT} (m : Nat) (hx : x.f0 = 7) (hy : y.f0 = 7) (ht : x.f4 = y.f4) : eqV (m + 1) x y = (x.f5.length == y.f5.length && all2 (eqV m) x.f5 y.f5) := by
  unfold eqV isNum
  rw [if_neg (by rw [hx]; simp)]
  by_cases hl : x.f5.length = y.f5.length
  · rw [if_neg (by rw [hx, hy]; simp [hl]), if_neg (by omega), if_neg (by omega), if_neg (by omega), if_neg (by omega), ht]
    have h4 : (y.f4 == y.f4) = true := (ba_beq _ _).2 rfl
    simp [hl, h4]
  · rw [if_pos (Or.inr hl)]
    simp [hl]
theorem all2_iff (e : VT → VT → Bool) : ∀ (xs ys : List VT), all2 e xs ys = true ↔ ∀ i (h1 : i < xs.length) (h2 : i < ys.length), e xs[i] ys[i] = true
  | [], ys => by simp [all2]
  | x :: xs, [] => by simp [all2]
  | x :: xs, y :: ys => by
    rw [all2, Bool.and_eq_true, all2_iff e xs ys]
    constructor
    · rintro ⟨h, hr⟩ i h1 h2
      cases i with
      | zero => exact h
      | succ i => exact hr i (by simpa using h1) (by simpa using h2)
    · intro h
      exact ⟨h 0 (by simp) (by simp), fun i h1 h2 => h (i + 1) (by simpa using h1) (by simpa using h2)⟩
theorem eqV_symm : ∀ (m i j : Nat) (x y : VT), HC i x → HC j y → eqV m x y = eqV m y x
  | 0, _, _, _, _, _, _ => rfl
  | m + 1, i, j, x, y, hx, hy => by
    rcases hx.cases with sx | ⟨kx, bx, _, i', rfl, cx⟩ <;> rcases hy.cases with sy | ⟨ky, bY, _, j', rfl, cy⟩
    · obtain ⟨s, hs, fs⟩ := sx
      obtain ⟨t, ht, ft⟩ := sy
      rw [eqV_sca m hs ht, eqV_sca m ht hs, eqS_symm s t fs ft]
    · rw [eqV_far m (Or.inl ⟨sx.kind.2, ky⟩), eqV_far m (Or.inr ⟨ky, sx.kind.2⟩)]
    · rw [eqV_far m (Or.inr ⟨kx, sy.kind.2⟩), eqV_far m (Or.inl ⟨sy.kind.2, kx⟩)]
    · have ht : x.f4 = y.f4 := by rw [bx.2.2.2, bY.2.2.2]
      rw [eqV_tup m kx ky ht, eqV_tup m ky kx ht.symm]
      have e1 : (x.f5.length == y.f5.length) = (y.f5.length == x.f5.length) := by rw [Bool.eq_iff_iff, beq_iff_eq, beq_iff_eq]; exact eq_comm
      rw [e1]
      congr 1
      rw [Bool.eq_iff_iff, all2_iff, all2_iff]
      exact ⟨fun h q h1 h2 => by rw [eqV_symm m _ _ _ _ (cy _ (List.getElem_mem h1)) (cx _ (List.getElem_mem h2))]; exact h q h2 h1, fun h q h1 h2 => by rw [eqV_symm m _ _ _ _ (cx _ (List.getElem_mem h1)) (cy _ (List.getElem_mem h2))]; exact h q h2 h1⟩
def tupStep (n : Int) (s : Int × Int) (y : Int) : Int × Int :=
  (bits .xor .u32 s.1 (IntKind.u32.wrap (y * s.2)), IntKind.u32.wrap (s.2 + IntKind.u32.wrap (82520 + IntKind.u32.wrap (n + n))))
def tupFold (n : Int) (l : List Int) : Int × Int := l.foldl (tupStep n) (3430008, 1000003)
def hashT : Nat → VT → Int
  | 0, y => hashS ((scaOf y).getD .none)
  | n + 1, y => if y.f0 = 7 then (tupFold (y.f5.length : Int) (y.f5.map (hashT n))).1 else hashS ((scaOf y).getD .none)
theorem hashT_sca {s : Sca} {y : VT} (h : Canon s y) : ∀ n, hashT n y = hashS s
  | 0 => by unfold hashT; rw [h.sca]; rfl
  | n + 1 => by
    have hk := h.kind
    unfold hashT
    rw [if_neg (by rw [hk]; cases s <;> simp [Sca.kind]), h.sca]; rfl
theorem hashT_tup {y : VT} (n : Nat) (h : y.f0 = 7) : hashT (n + 1) y = (tupFold (y.f5.length : Int) (y.f5.map (hashT n))).1 := by
  rw [hashT, if_pos h]
theorem fnv_succ (s : ByteArray) (k : Nat) (h : k < s.size) : (s.data.toList.take (k + 1)).foldl fnvStep 2166136261 = fnvStep ((s.data.toList.take k).foldl fnvStep 2166136261) s[k] := by
  have hl : k < s.data.toList.length := by simpa using h
  rw [List.take_succ_eq_append_getElem hl, List.foldl_append]
  rfl
set_option maxRecDepth 100000 in
theorem softHash_c (s : ByteArray) (w : World) (hs : s.size ≤ 2147483647) : Calls Tryz.prog 367 #[.string s] w fun e w' => e = .returned (.int .u32 (fnv s)) ∧ w' = w := by
  go_enter Tryz.func367, Tryz.ntmps367
  go_wp2_with fail
  go_loopw [3, 4] (fun h i wr => ∃ k : Nat, k ≤ s.size ∧ h = .int .u32 ((s.data.toList.take k).foldl fnvStep 2166136261) ∧ i = .int .i64 k ∧ wr = w) (fun _ i _ => s.size - (intOf i).toNat)
  case atStart => exact ⟨0, Nat.zero_le _, rfl, rfl, rfl⟩
  case round =>
    obtain ⟨k, hk, rfl, rfl, rfl⟩ := hrel
    by_cases hlt : k < s.size
    · have HF := Lib.hid (fnv_succ s k hlt)
      obtain ⟨x, hx⟩ : ∃ x, (s.data.toList.take k).foldl fnvStep 2166136261 = x := ⟨_, rfl⟩
      rw [hx] at HF ⊢
      clear hx
      go_wp2
      go_roundw
      case rel =>
        refine ⟨k + 1, by omega, ?_, by go_num, trivial⟩
        rw [HF.out]
        unfold fnvStep
        have hc : (s[k].toNat : Int) % 4294967296 = s[k].toNat := by have := s[k].toNat_lt; omega
        rw [wrap32, hc]
      case measure => simp [intOf]; omega
    · have hke : k = s.size := by omega
      subst hke
      have hf : (s.data.toList.take s.size).foldl fnvStep 2166136261 = fnv s := by
        rw [List.take_of_length_le (by simp)]
        rfl
      rw [hf]
      go_wp2
      go_ret
      exact ⟨rfl, rfl⟩
theorem hashString_c (s : ByteArray) (w : World) (hs : s.size ≤ 2147483647) : Calls Tryz.prog 365 #[.string s] w fun e w' => e = .returned (.int .u32 (fnv s)) ∧ w' = w := by
  have HS := Lib.hid (fun w => softHash_c s w hs)
  clear hs
  go_enter Tryz.func365, Tryz.ntmps365
  go_wp2_with (go_at_call 367; (with_reducible refine (HS.out _).mono ?_); rintro e w1 ⟨rfl, hw1⟩; have HW := Lib.hid hw1; clear hw1)
  go_ret
  exact ⟨rfl, HW.out⟩
theorem hashStr_c (s : ByteArray) (w : World) (hs : s.size ≤ 2147483647) : Calls Tryz.prog 357 #[.string s] w fun e w' => e = .returned (.tuple #[.int .u32 (hashS (.str s)), .nilIface]) ∧ Below w.heap.size w w' := by
  have HS := Lib.hid (fun w => hashString_c s w hs)
  clear hs
  go_enter Tryz.func357, Tryz.ntmps357
  go_wp2_with (go_at_call 365; (with_reducible refine (HS.out _).mono ?_); rintro e w1 ⟨rfl, hw1⟩; have HW := Lib.hid hw1; clear hw1)
  go_ret2
  exact ⟨rfl, by rw [HW.out]; exact Below.refl _ _⟩
theorem hashBytes_c (s : ByteArray) (w : World) (hs : s.size ≤ 2147483647) : Calls Tryz.prog 371 #[.string s] w fun e w' => e = .returned (.tuple #[.int .u32 (hashS (.bytes s)), .nilIface]) ∧ Below w.heap.size w w' := by
  have HS := Lib.hid (fun w => hashStr_c s w hs)
  clear hs
  go_enter Tryz.func371, Tryz.ntmps371
  go_wp2_with (go_at_call 357; (with_reducible refine (HS.out _).mono ?_); rintro e w1 ⟨rfl, hb1⟩; have HB := Lib.hid hb1; clear hb1)
  go_ret2
  exact ⟨rfl, HB.out⟩
theorem hashNone_c (v : Value) (w : World) : Calls Tryz.prog 344 #[v] w fun e w' => e = .returned (.tuple #[.int .u32 (hashS .none), .nilIface]) ∧ Below w.heap.size w w' := by
  go_enter Tryz.func344, Tryz.ntmps344
  go_wp2
  go_ret2
  exact ⟨rfl, Below.refl _ _⟩
theorem hashBool_c (b : Bool) (w : World) : Calls Tryz.prog 350 #[.bool b] w fun e w' => e = .returned (.tuple #[.int .u32 (hashS (.bool b)), .nilIface]) ∧ Below w.heap.size w w' := by
  cases b
  all_goals
    go_enter Tryz.func350, Tryz.ntmps350
    go_wp2_with (go_at_call 354; (with_reducible refine (b2i_c _ _).mono ?_); rintro e w1 ⟨rfl, hw1⟩; have HW := Lib.hid hw1; clear hw1)
    go_ret2
    exact ⟨rfl, by rw [HW.out]; exact Below.refl _ _⟩
def HIv (w : World) (v : Value) (x : Int) : Prop :=
  (sml x = true ∧ v = .agg #[.int .i64 x, .pointer none]) ∨
  (sml x = false ∧ ∃ g n u zs, v = .agg #[.int .i64 0, .pointer (some ⟨g, 0, none⟩)] ∧ PI w g 0 n u zs ∧ bval n zs = x)
theorem SIv.hi {B : Nat} {w : World} {v : Value} {x : Int} (h : SIv B w v x) : HIv w v x := by
  rcases h with h | ⟨hs, g, neg, u, zs, e, hg, hb, hv, _⟩
  · exact Or.inl h
  · exact Or.inr ⟨hs, g, neg, u, zs, e, hb.pi, hv⟩
theorem HIv.shape {w : World} {v : Value} {x : Int} (h : HIv w v x) : ∃ y p, v = .agg #[.int .i64 y, .pointer p] := by
  rcases h with ⟨_, rfl⟩ | ⟨_, g, n, u, zs, rfl, _⟩ <;> exact ⟨_, _, rfl⟩
theorem bits_c (g : Nat) (neg : Bool) (v : Value) (zs : List Int) (w : World) (h : PI w g 0 neg v zs) : Calls Tryz.prog 328 #[.pointer (some ⟨g, 0, none⟩)] w fun e w' => e = .returned v ∧ w' = w := by
  have c1 := h.c1
  simp only [Nat.zero_add] at c1
  obtain ⟨A, c, rfl, _⟩ := h.sl.c
  clear h
  go_enter Tryz.func328, Tryz.ntmps328
  go_wp2
  go_ret
  exact ⟨rfl, rfl⟩
theorem low_word (neg : Bool) (zs : List Int) (hw : Words zs) (h : 0 < zs.length) : zs[0] = ((bval neg zs).natAbs : Int) % 18446744073709551616 := by
  cases zs with
  | nil => simp at h
  | cons z zs =>
    have h0 := hw z (by simp)
    have hb := (leN_bd zs (fun x hx => hw x (by simp [hx]))).1
    have e : ((bval neg (z :: zs)).natAbs : Int) = z + 18446744073709551616 * leN zs := by
      unfold bval
      rw [leN_cons]
      cases neg <;> simp <;> omega
    rw [e]
    simp
    omega
set_option maxRecDepth 100000 in
theorem hashInt_c (u : Value) (x : Int) (w : World) (h : HIv w u x) : Calls Tryz.prog 323 #[u] w fun e w' => e = .returned (.tuple #[.int .u32 (hashS (.int x)), .nilIface]) ∧ Below w.heap.size w w' := by
  have HB0 : Hid (∀ o, Below w.heap.size w (w.alloc o)) := fun o => (Below.refl _ _).alloc (Nat.le_refl _) o
  rcases h with ⟨hs, rfl⟩ | ⟨hs, g, neg, u1, zs, rfl, hi, he⟩
  · have HL : Hid (hashS (.int x) = hashLo (IntKind.u64.wrap x)) := Lib.hid (by show hashLo (loZ x) = _; unfold loZ; rw [if_pos hs])
    clear hs
    go_enter Tryz.func323, Tryz.ntmps323
    go_wp2_with (go_at_call 98; (with_reducible refine (get_c _ _ _).mono ?_); rintro e w1 ⟨rfl, hb1⟩; have HB := Lib.hid hb1; clear hb1)
    go_ret2
    exact ⟨by rw [HL.out]; rfl, (HB0.out _).trans (HB.out.mono (by simp))⟩
  · have hne : zs ≠ [] := by
      rintro rfl
      rw [show x = 0 by rw [← he]; unfold bval; cases neg <;> rfl] at hs
      cases hs
    have hpos := List.length_pos_iff.2 hne
    have HL : Hid (hashS (.int x) = hashLo zs[0]) := Lib.hid (by show hashLo (loZ x) = _; unfold loZ; rw [if_neg (by rw [hs]; decide), low_word neg zs hi.words hpos, he])
    have HI := Lib.hid hi
    obtain ⟨A1, c1, hv, hlc, h63, hne3⟩ := hi.sl
    obtain ⟨b, o, rfl, hB, hlt, hc⟩ := hne3 hne
    subst hv
    have hc0 := hc 0 hpos
    obtain ⟨z0, hz0⟩ : ∃ z, zs[0] = z := ⟨_, rfl⟩
    rw [hz0] at HL hc0
    have hposI : (0 : Int) < zs.length := by omega
    clear hz0 hc hs he hi hne hne3 hlc
    have HC : Hid (∀ W, Below w.heap.size w W → W.cell? ⟨b, o, none⟩ = some (.int .u64 z0)) := Lib.hid fun W hW => (hW.cell (p := ⟨b, o, none⟩) hlt).trans (by simpa using hc0)
    clear hc0
    go_enter Tryz.func323, Tryz.ntmps323
    go_wp2_with (first
      | (go_at_call 98; (with_reducible refine (get_c _ _ _).mono ?_); rintro e w1 ⟨rfl, hb1⟩; have HB := Lib.hid ((HB0.out _).trans (hb1.mono (HB0.out _).size)); clear hb1)
      | (go_at_call 328; (with_reducible refine (bits_c g neg _ zs _ (HI.out.below HB.out)).mono ?_); rintro e w2 ⟨rfl, hw2⟩; have HW := Lib.hid hw2; clear hw2; have hc0 := HC.out _ HB.out; rw [← HW.out] at hc0))
    go_ret2
    exact ⟨by rw [HL.out]; rfl, by rw [HW.out]; exact HB.out⟩
end Go.Proofs.YtkplnbjgkhmbcaaGreatDoor
namespace Go.Proofs.YtkplnbjgkhmbcaaGreatDoor
open Go.RowKit Go.Shelf Go.Proofs.YtkplnbjgkhmbcaaGreatDoorW.PrintWords Go.Proofs.YtkplnbjgkhmbcaaGreatDoorW.PrintLast Go.Proofs.YtkplnbjgkhmbcaaGreatDoorW.PrintMore
set_option linter.unusedVariables false
set_option linter.unusedSimpArgs false
theorem setWord0_c (w : World) : Calls Tryz.prog 133 #[.slice none 0 0, .int .u64 0] w fun e w' => e = .returned (.slice none 0 0) ∧ w' = w := by
  go_enter Tryz.func133, Tryz.ntmps133
  go_wp2
  go_ret
  exact ⟨rfl, rfl⟩
set_option maxRecDepth 100000 in
theorem divW1_c (B : Nat) (v : Value) (zs : List Int) (w : World) (h : Sl .u64 B w v zs) (hmax : zs.length ≤ 4398046511104) :
    Calls Tryz.prog 204 #[.slice none 0 0, v, .int .u64 1] w fun e w' => ∃ A c, e = .returned (.tuple #[.slice A zs.length c, .int .u64 0]) ∧ Sl .u64 w.heap.size w' (.slice A zs.length c) zs ∧ Below w.heap.size w w' := by
  have HC := Lib.hid (fun w' (hb : Below w.heap.size w w') => natSet_c B v zs w' (h.below hb) hmax)
  obtain ⟨A, c, rfl, _⟩ := h.c
  clear h
  have HB0 : Hid (Below w.heap.size w w) := Below.refl _ _
  go_enter Tryz.func204, Tryz.ntmps204
  go_wp2_with (go_at_call 160; with_reducible refine (HC.out _ HB0.out).mono ?_; rintro e w1 ⟨u, rfl, hs1, hb1⟩; obtain ⟨A1, k1, rfl, _⟩ := hs1.c; have HS1 := Lib.hid hs1; have HB1 := Lib.hid hb1; clear hs1 hb1)
  go_ret2
  exact ⟨_, _, rfl, HS1.out, HB1.out⟩
set_option maxRecDepth 100000 in
theorem natDiv1_c (B B2 : Nat) (v v2 : Value) (zs : List Int) (w : World) (h : Sl .u64 B w v zs) (hmax : zs.length ≤ 4398046511104) (hv : Sl .u64 B2 w v2 [1]) :
    Calls Tryz.prog 175 #[.slice none 0 0, .pointer none, .slice none 0 0, v, v2] w fun e w' => ∃ A c, e = .returned (.tuple #[.slice A zs.length c, .slice none 0 0]) ∧ Sl .u64 w.heap.size w' (.slice A zs.length c) zs ∧ Below w.heap.size w w' := by
  have HD := Lib.hid (divW1_c B v zs w h hmax)
  obtain ⟨A2, c2, rfl, k1, k2, k3⟩ := hv
  obtain ⟨b, o, rfl, hB, hlt, hc⟩ := k3 (by simp)
  have x0 : w.cell? ⟨b, o, none⟩ = some (.int .u64 1) := by simpa using hc 0 (by simp)
  obtain ⟨A, c, rfl, _⟩ := h.c
  clear h hc k3 k2 k1 hmax
  have HS := Lib.hid (fun w => setWord0_c w)
  go_enter Tryz.func175, Tryz.ntmps175
  go_wp2_with (first
    | (go_at_call 204; with_reducible refine HD.out.mono ?_; rintro e w1 ⟨A1, c1, rfl, hs1, hb1⟩; have HS1 := Lib.hid hs1; have HB1 := Lib.hid hb1; clear hs1 hb1)
    | (go_at_call 133; with_reducible refine (HS.out _).mono ?_; rintro e w2 ⟨rfl, hw2⟩; have HW := Lib.hid hw2; clear hw2))
  go_ret2
  exact ⟨_, _, rfl, by rw [HW.out]; exact HS1.out, by rw [HW.out]; exact HB1.out⟩
set_option maxRecDepth 100000 in
set_option maxHeartbeats 8000000 in
theorem quoRem1_c (gq gr g : Nat) (n : Bool) (va vb : Value) (xs : List Int) (w : World) (h : RT w g n va xs vb [1]) (hne : xs ≠ []) (hmax : xs.length ≤ 4398046511104)
    (hq : w.heap[gq]? = some (.cells #[.bool false, .slice none 0 0] 196 (0, 0))) (hr : w.heap[gr]? = some (.cells #[.bool false, .slice none 0 0] 196 (0, 0)))
    (hqr : gq < gr) (ne1 : g < gq) :
    Calls Tryz.prog 221 #[.pointer (some ⟨gq, 0, none⟩), .pointer (some ⟨g, 0, none⟩), .pointer (some ⟨g, 2, none⟩), .pointer (some ⟨gr, 0, none⟩)] w fun e w' =>
      e = .returned (.tuple #[.pointer (some ⟨gq, 0, none⟩), .pointer (some ⟨gr, 0, none⟩)]) ∧ (∃ u, BI w' gq n u xs) ∧ w'.heap[gr]? = some (.cells #[.bool false, .slice none 0 0] 196 (0, 0)) ∧ Below gq w w' := by
  have ha := h.pa
  have hb := h.pb
  have HC := Lib.hid (fun w' (hbb : Below w.heap.size w w') => natDiv1_c _ _ va vb xs w' (ha.sl.below hbb) hmax (hb.sl.below hbb))
  have HW := Lib.hid (And.intro h.wa h.ta)
  have HN := Lib.hid (List.length_pos_iff.2 hne)
  have a0 := ha.c0
  have a1 := ha.c1
  have b0 := hb.c0
  have b1 := hb.c1
  have hla := ha.lt
  have q0 : w.cell? ⟨gq, 0, none⟩ = some (.bool false) := blk_cell hq 0 _ rfl
  have q1 : w.cell? ⟨gq, 1, none⟩ = some (.slice none 0 0) := blk_cell hq 1 _ rfl
  have qf0 := blk_free hq 0
  have qf1 := blk_free hq 1
  have r0 : w.cell? ⟨gr, 0, none⟩ = some (.bool false) := blk_cell hr 0 _ rfl
  have r1 : w.cell? ⟨gr, 1, none⟩ = some (.slice none 0 0) := blk_cell hr 1 _ rfl
  have rf0 := blk_free hr 0
  have rf1 := blk_free hr 1
  have hlq := lt_of_cell q0
  have hlr := lt_of_cell r0
  have HQ := Lib.hid hq
  have HR := Lib.hid hr
  obtain ⟨A, c, rfl, _⟩ := ha.sl.c
  obtain ⟨A2, c2, rfl, _⟩ := hb.sl.c
  simp only [List.length_singleton] at HC b1
  simp only [Nat.zero_add] at a1
  have hlb := hla
  clear ha hb hq hr hmax hne h
  have HB0 : Hid (Below w.heap.size w w) := Below.refl _ _
  have nqa : gq ≠ g := by omega
  have nqb := nqa
  have nra : gr ≠ g := by omega
  have nrb := nra
  have HL0 := Lib.hid hlr
  have HA0 := Lib.hid a0
  have HA1 := Lib.hid b0
  go_enter Tryz.func221, Tryz.ntmps221
  go_upto_region 1 with fail
  go_cut [] (fun wx => ∃ A3 c3, wx.heap[gq]? = some (.cells #[.bool false, .slice A3 xs.length c3] 196 (0, 0)) ∧ wx.heap[gr]? = some (.cells #[.bool false, .slice none 0 0] 196 (0, 0)) ∧ Hid (Sl .u64 (gr + 1) wx (.slice A3 xs.length c3) xs) ∧ Hid (Below gq w wx))
  case first =>
    refine wp_region_held_drew (S := fun w' => w'.cell? ⟨g, 1, none⟩ = some (.slice A xs.length c) ∧ w'.cell? ⟨g, 3, none⟩ = some (.slice A2 1 c2)) (by kernel_rfl) ⟨a1, b1⟩ (fun hHeld => ?_)
    refine wpAnyH_take (i := 0) (oi := _) (v := ?_) rfl (by kernel_rfl) (by kernel_rfl) (by kernel_rfl) (fun _ _ _ h => h) (Or.inl ⟨by rfl, ?_⟩) (by assumption) ?_; rotate_left 1; · (intro w hSw; (try dsimp only at hSw); go_simp; first | done | with_reducible rfl)
    try simp only [Act.put, List.setIfInBounds_toArray, List.set_cons_zero, List.set_cons_succ, List.getElem_toArray, List.getElem_cons_zero, List.getElem_cons_succ]
    refine wpAnyH_take (i := 1) (oi := _) (v := ?_) rfl (by kernel_rfl) (by kernel_rfl) (by kernel_rfl) (fun _ _ _ h => h) (Or.inl ⟨by rfl, ?_⟩) (by assumption) ?_; rotate_left 1; · (intro w hSw; (try dsimp only at hSw); go_simp; first | done | with_reducible rfl)
    try simp only [Act.put, List.setIfInBounds_toArray, List.set_cons_zero, List.set_cons_succ, List.getElem_toArray, List.getElem_cons_zero, List.getElem_cons_succ]
    refine wpAnyH_take (i := 2) (oi := _) (v := ?_) rfl (by kernel_rfl) (by kernel_rfl) (by kernel_rfl) (fun _ _ _ h => h) (Or.inl ⟨by rfl, ?_⟩) (by assumption) ?_; rotate_left 1; · (intro w hSw; (try dsimp only at hSw); go_simp; first | done | with_reducible rfl)
    try simp only [Act.put, List.setIfInBounds_toArray, List.set_cons_zero, List.set_cons_succ, List.getElem_toArray, List.getElem_cons_zero, List.getElem_cons_succ]
    refine wpAnyH_take (i := 3) (oi := _) (v := ?_) rfl (by kernel_rfl) (by kernel_rfl) (by kernel_rfl) (fun _ _ _ h => h) (Or.inl ⟨by rfl, ?_⟩) (by assumption) ?_; rotate_left 1; · (intro w hSw; (try dsimp only at hSw); go_simp; first | done | with_reducible rfl)
    try simp only [Act.put, List.setIfInBounds_toArray, List.set_cons_zero, List.set_cons_succ, List.getElem_toArray, List.getElem_cons_zero, List.getElem_cons_succ]
    refine wpAnyH_take (i := 4) (oi := _) (v := ?_) rfl (by kernel_rfl) (by kernel_rfl) (by kernel_rfl) (fun _ _ _ h => h) (Or.inl ⟨by rfl, ?_⟩) (by assumption) ?_; rotate_left 1; · (intro w hSw; (try dsimp only at hSw); go_simp; first | done | with_reducible rfl)
    try simp only [Act.put, List.setIfInBounds_toArray, List.set_cons_zero, List.set_cons_succ, List.getElem_toArray, List.getElem_cons_zero, List.getElem_cons_succ]
    refine wpAnyH_take (i := 6) (oi := _) (v := ?_) rfl (by kernel_rfl) (by kernel_rfl) (by kernel_rfl) (fun _ _ _ h => h) (Or.inl ⟨by rfl, ?_⟩) (by assumption) ?_; rotate_left 1; · (intro w hSw; (try dsimp only at hSw); go_simp; first | done | with_reducible rfl)
    try simp only [Act.put, List.setIfInBounds_toArray, List.set_cons_zero, List.set_cons_succ, List.getElem_toArray, List.getElem_cons_zero, List.getElem_cons_succ]
    refine wpAnyH_take (i := 7) (oi := _) (v := ?_) rfl (by kernel_rfl) (by kernel_rfl) (by kernel_rfl) (fun _ _ _ h => h) (Or.inl ⟨by rfl, ?_⟩) (by assumption) ?_; rotate_left 1; · (intro w hSw; (try dsimp only at hSw); go_simp; first | done | with_reducible rfl)
    try simp only [Act.put, List.setIfInBounds_toArray, List.set_cons_zero, List.set_cons_succ, List.getElem_toArray, List.getElem_cons_zero, List.getElem_cons_succ]
    refine wpAnyH_take (i := 8) (oi := _) (v := ?_) rfl (by kernel_rfl) (by kernel_rfl) (by kernel_rfl) (fun _ _ _ h => h) (Or.inl ⟨by rfl, ?_⟩) (by assumption) ?_; rotate_left 1; · (intro w hSw; (try dsimp only at hSw); go_simp; first | done | with_reducible rfl)
    try simp only [Act.put, List.setIfInBounds_toArray, List.set_cons_zero, List.set_cons_succ, List.getElem_toArray, List.getElem_cons_zero, List.getElem_cons_succ]
    refine wpAnyH_take (i := 10) (oi := _) (v := ?_) rfl (by kernel_rfl) (by kernel_rfl) (by kernel_rfl) (fun _ _ _ h => h) (Or.inl ⟨by rfl, ?_⟩) (by assumption) ?_; rotate_left 1; · (intro w hSw; (try dsimp only at hSw); go_simp; first | done | with_reducible rfl)
    try simp only [Act.put, List.setIfInBounds_toArray, List.set_cons_zero, List.set_cons_succ, List.getElem_toArray, List.getElem_cons_zero, List.getElem_cons_succ]
    refine wpAnyH_take (i := 11) (oi := _) (v := ?_) rfl (by kernel_rfl) (by kernel_rfl) (by kernel_rfl) (fun _ _ _ h => h) (Or.inl ⟨by rfl, ?_⟩) (by assumption) ?_; rotate_left 1; · (intro w hSw; (try dsimp only at hSw); go_simp; first | done | with_reducible rfl)
    try simp only [Act.put, List.setIfInBounds_toArray, List.set_cons_zero, List.set_cons_succ, List.getElem_toArray, List.getElem_cons_zero, List.getElem_cons_succ]
    refine wpAnyH_take (i := 12) (oi := _) (v := ?_) rfl (by kernel_rfl) (by kernel_rfl) (by kernel_rfl) (fun _ _ _ h => h) (Or.inl ⟨by rfl, ?_⟩) (by assumption) ?_; rotate_left 1; · (intro w hSw; (try dsimp only at hSw); go_simp; first | done | with_reducible rfl)
    try simp only [Act.put, List.setIfInBounds_toArray, List.set_cons_zero, List.set_cons_succ, List.getElem_toArray, List.getElem_cons_zero, List.getElem_cons_succ]
    refine wpAnyH_take (i := 13) (oi := _) (v := ?_) rfl (by kernel_rfl) (by kernel_rfl) (by kernel_rfl) (fun _ _ _ h => h) (Or.inl ⟨by rfl, ?_⟩) (by assumption) ?_; rotate_left 1; · (intro w hSw; (try dsimp only at hSw); go_simp; first | done | with_reducible rfl)
    try simp only [Act.put, List.setIfInBounds_toArray, List.set_cons_zero, List.set_cons_succ, List.getElem_toArray, List.getElem_cons_zero, List.getElem_cons_succ]
    refine wpAnyH_take (i := 14) (oi := _) (v := ?_) rfl (by kernel_rfl) (by kernel_rfl) (by kernel_rfl) (fun _ _ _ h => h) (Or.inl ⟨by rfl, ?_⟩) (by assumption) ?_; rotate_left 1; · (intro w hSw; (try dsimp only at hSw); go_simp; first | done | with_reducible rfl)
    try simp only [Act.put, List.setIfInBounds_toArray, List.set_cons_zero, List.set_cons_succ, List.getElem_toArray, List.getElem_cons_zero, List.getElem_cons_succ]
    refine wpAnyH_take (i := 15) (oi := _) (v := ?_) rfl (by kernel_rfl) (by kernel_rfl) (by kernel_rfl) (fun _ _ _ h => h) (Or.inl ⟨by rfl, ?_⟩) (by assumption) ?_; rotate_left 1; · (intro w hSw; (try dsimp only at hSw); go_simp; first | done | with_reducible rfl)
    try simp only [Act.put, List.setIfInBounds_toArray, List.set_cons_zero, List.set_cons_succ, List.getElem_toArray, List.getElem_cons_zero, List.getElem_cons_succ]
    refine wpAnyH_take (i := 16) (oi := _) (v := ?_) rfl (by kernel_rfl) (by kernel_rfl) (by kernel_rfl) (fun _ _ _ h => h) (Or.inl ⟨by rfl, ?_⟩) (by assumption) ?_; rotate_left 1; · (intro w hSw; (try dsimp only at hSw); go_simp; first | done | with_reducible rfl)
    try simp only [Act.put, List.setIfInBounds_toArray, List.set_cons_zero, List.set_cons_succ, List.getElem_toArray, List.getElem_cons_zero, List.getElem_cons_succ]
    refine wpAnyH_take (i := 17) (oi := _) (v := ?_) rfl (by kernel_rfl) (by kernel_rfl) (by kernel_rfl) (fun _ _ _ h => h) (Or.inl ⟨by rfl, ?_⟩) (by assumption) ?_; rotate_left 1; · (intro w hSw; (try dsimp only at hSw); go_simp; first | done | with_reducible rfl)
    try simp only [Act.put, List.setIfInBounds_toArray, List.set_cons_zero, List.set_cons_succ, List.getElem_toArray, List.getElem_cons_zero, List.getElem_cons_succ]
    refine wpAnyH_ready (rs := [5, 9]) (by kernel_rfl) (by simp) ?_
    refine AllReadyH.cons (o := _) rfl (fun K hK => ?_) (AllReadyH.cons (o := _) rfl (fun K hK => ?_) AllReadyH.nil)
    · go_simp
      refine hK.out _ _ ⟨a1, b1⟩ (fun hHeld => ?_)
      clear hK K
      try simp only [Act.put, List.setIfInBounds_toArray, List.set_cons_zero, List.set_cons_succ]
      refine wpAnyH_ready (rs := [9]) (by kernel_rfl) (by simp) ?_
      refine AllReadyH.cons (o := _) rfl (fun K hK => ?_) AllReadyH.nil
      go_simp
      refine hK.out _ _ ⟨a1, b1⟩ (fun hHeld => ?_)
      clear hK K
      try simp only [Act.put, List.setIfInBounds_toArray, List.set_cons_zero, List.set_cons_succ, List.getElem_toArray, List.getElem_cons_zero, List.getElem_cons_succ]
      refine wpAnyH_ready (rs := [18]) (by kernel_rfl) (by simp) ?_
      refine AllReadyH.cons (o := _) rfl (fun K hK => ?_) AllReadyH.nil
      go_simp; go_at_call 175; (first | (with_reducible refine (HC.out _ HB0.out).mono ?_) | (with_reducible refine (HC.out _ HB0.out.drew).mono ?_)); rintro e w1 ⟨A3, c3, rfl, hs4, hb1⟩; have HS4 := Lib.hid hs4; replace HB0 : Hid (Below w.heap.size w w1) := (by first | exact HB0.out.trans hb1 | exact HB0.out.drew.trans hb1); have HL := Lib.hid hb1.size; clear hs4 hb1; have q1' := (HB0.out.cell (p := ⟨gq, 1, none⟩) hlq).trans q1; have qf1' := (HB0.out.frozen (p := ⟨gq, 1, none⟩) hlq).trans qf1; have r1' := (HB0.out.cell (p := ⟨gr, 1, none⟩) hlr).trans r1; have rf1' := (HB0.out.frozen (p := ⟨gr, 1, none⟩) hlr).trans rf1; have a1' := (HB0.out.cell (p := ⟨g, 1, none⟩) hla).trans a1; have b1' := (HB0.out.cell (p := ⟨g, 3, none⟩) hlb).trans b1; have HKq : Hid (∀ v, ((w1.setCell ⟨gq, 1, none⟩ v).cell? ⟨g, 1, none⟩ = some (.slice A xs.length c) ∧ (w1.setCell ⟨gq, 1, none⟩ v).cell? ⟨g, 3, none⟩ = some (.slice A2 1 c2))) := Lib.hid fun v => ⟨(cell_setCell_ne _ _ _ _ (Or.inl nqa)).trans a1', (cell_setCell_ne _ _ _ _ (Or.inl nqb)).trans b1'⟩; have HKr : Hid (∀ v u, (((w1.setCell ⟨gq, 1, none⟩ v).setCell ⟨gr, 1, none⟩ u).cell? ⟨g, 1, none⟩ = some (.slice A xs.length c) ∧ ((w1.setCell ⟨gq, 1, none⟩ v).setCell ⟨gr, 1, none⟩ u).cell? ⟨g, 3, none⟩ = some (.slice A2 1 c2))) := Lib.hid fun v u => ⟨(cell_setCell_ne _ _ _ _ (Or.inl nra)).trans (HKq.out v).1, (cell_setCell_ne _ _ _ _ (Or.inl nrb)).trans (HKq.out v).2⟩
      refine hK.out _ _ ⟨a1', b1'⟩ (fun hHeld => ?_)
      clear hK K
      try simp only [Act.put, List.setIfInBounds_toArray, List.set_cons_zero, List.set_cons_succ, List.getElem_toArray, List.getElem_cons_zero, List.getElem_cons_succ]
      refine wpAnyH_take (i := 19) (oi := _) (v := ?_) rfl (by kernel_rfl) (by kernel_rfl) (by kernel_rfl) (fun _ _ _ h => h) (Or.inl ⟨by rfl, ?_⟩) (by assumption) ?_; rotate_left 1; · (intro w hSw; (try dsimp only at hSw); go_simp; first | done | with_reducible rfl)
      try simp only [Act.put, List.setIfInBounds_toArray, List.set_cons_zero, List.set_cons_succ, List.getElem_toArray, List.getElem_cons_zero, List.getElem_cons_succ]
      refine wpAnyH_take (i := 20) (oi := _) (v := ?_) rfl (by kernel_rfl) (by kernel_rfl) (by kernel_rfl) (fun _ _ _ h => h) (Or.inl ⟨by rfl, ?_⟩) (by assumption) ?_; rotate_left 1; · (intro w hSw; (try dsimp only at hSw); go_simp; first | done | with_reducible rfl)
      try simp only [Act.put, List.setIfInBounds_toArray, List.set_cons_zero, List.set_cons_succ, List.getElem_toArray, List.getElem_cons_zero, List.getElem_cons_succ]
      refine wpAnyH_take (i := 21) (oi := _) (v := ?_) rfl (by kernel_rfl) (by kernel_rfl) (by kernel_rfl) (fun _ _ _ h => h) (Or.inl ⟨by rfl, ?_⟩) (by assumption) ?_; rotate_left 1; · (intro w hSw; (try dsimp only at hSw); go_simp; first | done | with_reducible rfl)
      try simp only [Act.put, List.setIfInBounds_toArray, List.set_cons_zero, List.set_cons_succ, List.getElem_toArray, List.getElem_cons_zero, List.getElem_cons_succ]
      refine wpAnyH_take (i := 22) (oi := _) (v := ?_) rfl (by kernel_rfl) (by kernel_rfl) (by kernel_rfl) (fun _ _ _ h => h) (Or.inl ⟨by rfl, ?_⟩) (by assumption) ?_; rotate_left 1; · (intro w hSw; (try dsimp only at hSw); go_simp; first | done | with_reducible rfl)
      try simp only [Act.put, List.setIfInBounds_toArray, List.set_cons_zero, List.set_cons_succ, List.getElem_toArray, List.getElem_cons_zero, List.getElem_cons_succ]
      refine wpAnyH_take (i := 23) (oi := _) (v := ?_) rfl (by kernel_rfl) (by kernel_rfl) (by kernel_rfl) (fun _ _ _ h => h) (Or.inl ⟨by rfl, ?_⟩) (by assumption) ?_; rotate_left 1; · (intro w hSw; (try dsimp only at hSw); go_simp; first | done | with_reducible rfl)
      try simp only [Act.put, List.setIfInBounds_toArray, List.set_cons_zero, List.set_cons_succ, List.getElem_toArray, List.getElem_cons_zero, List.getElem_cons_succ]
      refine wpAnyH_ready (rs := [24]) (by kernel_rfl) (by simp) ?_
      refine AllReadyH.cons (o := _) rfl (fun K hK => ?_) AllReadyH.nil
      go_simp
      refine hK.out _ _ (HKq.out _) (fun hHeld => ?_)
      clear hK K
      try simp only [Act.put, List.setIfInBounds_toArray, List.set_cons_zero, List.set_cons_succ, List.getElem_toArray, List.getElem_cons_zero, List.getElem_cons_succ]
      refine wpAnyH_take (i := 25) (oi := _) (v := ?_) rfl (by kernel_rfl) (by kernel_rfl) (by kernel_rfl) (fun _ _ _ h => h) (Or.inl ⟨by rfl, ?_⟩) (by assumption) ?_; rotate_left 1; · (intro w hSw; (try dsimp only at hSw); go_simp; first | done | with_reducible rfl)
      try simp only [Act.put, List.setIfInBounds_toArray, List.set_cons_zero, List.set_cons_succ, List.getElem_toArray, List.getElem_cons_zero, List.getElem_cons_succ]
      refine wpAnyH_take (i := 26) (oi := _) (v := ?_) rfl (by kernel_rfl) (by kernel_rfl) (by kernel_rfl) (fun _ _ _ h => h) (Or.inl ⟨by rfl, ?_⟩) (by assumption) ?_; rotate_left 1; · (intro w hSw; (try dsimp only at hSw); go_simp; first | done | with_reducible rfl)
      try simp only [Act.put, List.setIfInBounds_toArray, List.set_cons_zero, List.set_cons_succ, List.getElem_toArray, List.getElem_cons_zero, List.getElem_cons_succ]
      refine wpAnyH_ready (rs := [27]) (by kernel_rfl) (by simp) ?_
      refine AllReadyH.cons (o := _) rfl (fun K hK => ?_) AllReadyH.nil
      go_simp
      refine hK.out _ _ (HKr.out _ _) (fun hHeld => ?_)
      clear hK K
      try simp only [Act.put, List.setIfInBounds_toArray, List.set_cons_zero, List.set_cons_succ, List.getElem_toArray, List.getElem_cons_zero, List.getElem_cons_succ]
      refine wpAnyH_done (by kernel_rfl) ?_ _
      (go_wp2_with fail; go_meet; exact ⟨A3, c3, blk_far (blk_put (blk_keepH HQ.out HB0.out hlq) 1 _ rfl) (by show gq ≠ gr; omega) _, blk_put (blk_far (blk_keepH HR.out HB0.out hlr) (by show gr ≠ gq; omega) _) 1 _ rfl, Lib.hid (((HS4.out.mono (by have := HL0.out; show _ ≤ w.heap.size; omega)).setCell (p := ⟨gq, 1, none⟩) _ (by show gq < gr + 1; omega)).setCell (p := ⟨gr, 1, none⟩) _ (by show gr < gr + 1; omega)), Lib.hid (((HB0.out.mono (Nat.le_of_lt hlq)).setCell (Nat.le_refl _) _).setCell (by show gq ≤ gr; omega) _)⟩)
    · go_simp
      refine hK.out _ _ ⟨a1, b1⟩ (fun hHeld => ?_)
      clear hK K
      try simp only [Act.put, List.setIfInBounds_toArray, List.set_cons_zero, List.set_cons_succ]
      refine wpAnyH_ready (rs := [5]) (by kernel_rfl) (by simp) ?_
      refine AllReadyH.cons (o := _) rfl (fun K hK => ?_) AllReadyH.nil
      go_simp
      refine hK.out _ _ ⟨a1, b1⟩ (fun hHeld => ?_)
      clear hK K
      try simp only [Act.put, List.setIfInBounds_toArray, List.set_cons_zero, List.set_cons_succ, List.getElem_toArray, List.getElem_cons_zero, List.getElem_cons_succ]
      refine wpAnyH_ready (rs := [18]) (by kernel_rfl) (by simp) ?_
      refine AllReadyH.cons (o := _) rfl (fun K hK => ?_) AllReadyH.nil
      go_simp; go_at_call 175; (first | (with_reducible refine (HC.out _ HB0.out).mono ?_) | (with_reducible refine (HC.out _ HB0.out.drew).mono ?_)); rintro e w1 ⟨A3, c3, rfl, hs4, hb1⟩; have HS4 := Lib.hid hs4; replace HB0 : Hid (Below w.heap.size w w1) := (by first | exact HB0.out.trans hb1 | exact HB0.out.drew.trans hb1); have HL := Lib.hid hb1.size; clear hs4 hb1; have q1' := (HB0.out.cell (p := ⟨gq, 1, none⟩) hlq).trans q1; have qf1' := (HB0.out.frozen (p := ⟨gq, 1, none⟩) hlq).trans qf1; have r1' := (HB0.out.cell (p := ⟨gr, 1, none⟩) hlr).trans r1; have rf1' := (HB0.out.frozen (p := ⟨gr, 1, none⟩) hlr).trans rf1; have a1' := (HB0.out.cell (p := ⟨g, 1, none⟩) hla).trans a1; have b1' := (HB0.out.cell (p := ⟨g, 3, none⟩) hlb).trans b1; have HKq : Hid (∀ v, ((w1.setCell ⟨gq, 1, none⟩ v).cell? ⟨g, 1, none⟩ = some (.slice A xs.length c) ∧ (w1.setCell ⟨gq, 1, none⟩ v).cell? ⟨g, 3, none⟩ = some (.slice A2 1 c2))) := Lib.hid fun v => ⟨(cell_setCell_ne _ _ _ _ (Or.inl nqa)).trans a1', (cell_setCell_ne _ _ _ _ (Or.inl nqb)).trans b1'⟩; have HKr : Hid (∀ v u, (((w1.setCell ⟨gq, 1, none⟩ v).setCell ⟨gr, 1, none⟩ u).cell? ⟨g, 1, none⟩ = some (.slice A xs.length c) ∧ ((w1.setCell ⟨gq, 1, none⟩ v).setCell ⟨gr, 1, none⟩ u).cell? ⟨g, 3, none⟩ = some (.slice A2 1 c2))) := Lib.hid fun v u => ⟨(cell_setCell_ne _ _ _ _ (Or.inl nra)).trans (HKq.out v).1, (cell_setCell_ne _ _ _ _ (Or.inl nrb)).trans (HKq.out v).2⟩
      refine hK.out _ _ ⟨a1', b1'⟩ (fun hHeld => ?_)
      clear hK K
      try simp only [Act.put, List.setIfInBounds_toArray, List.set_cons_zero, List.set_cons_succ, List.getElem_toArray, List.getElem_cons_zero, List.getElem_cons_succ]
      refine wpAnyH_take (i := 19) (oi := _) (v := ?_) rfl (by kernel_rfl) (by kernel_rfl) (by kernel_rfl) (fun _ _ _ h => h) (Or.inl ⟨by rfl, ?_⟩) (by assumption) ?_; rotate_left 1; · (intro w hSw; (try dsimp only at hSw); go_simp; first | done | with_reducible rfl)
      try simp only [Act.put, List.setIfInBounds_toArray, List.set_cons_zero, List.set_cons_succ, List.getElem_toArray, List.getElem_cons_zero, List.getElem_cons_succ]
      refine wpAnyH_take (i := 20) (oi := _) (v := ?_) rfl (by kernel_rfl) (by kernel_rfl) (by kernel_rfl) (fun _ _ _ h => h) (Or.inl ⟨by rfl, ?_⟩) (by assumption) ?_; rotate_left 1; · (intro w hSw; (try dsimp only at hSw); go_simp; first | done | with_reducible rfl)
      try simp only [Act.put, List.setIfInBounds_toArray, List.set_cons_zero, List.set_cons_succ, List.getElem_toArray, List.getElem_cons_zero, List.getElem_cons_succ]
      refine wpAnyH_take (i := 21) (oi := _) (v := ?_) rfl (by kernel_rfl) (by kernel_rfl) (by kernel_rfl) (fun _ _ _ h => h) (Or.inl ⟨by rfl, ?_⟩) (by assumption) ?_; rotate_left 1; · (intro w hSw; (try dsimp only at hSw); go_simp; first | done | with_reducible rfl)
      try simp only [Act.put, List.setIfInBounds_toArray, List.set_cons_zero, List.set_cons_succ, List.getElem_toArray, List.getElem_cons_zero, List.getElem_cons_succ]
      refine wpAnyH_take (i := 22) (oi := _) (v := ?_) rfl (by kernel_rfl) (by kernel_rfl) (by kernel_rfl) (fun _ _ _ h => h) (Or.inl ⟨by rfl, ?_⟩) (by assumption) ?_; rotate_left 1; · (intro w hSw; (try dsimp only at hSw); go_simp; first | done | with_reducible rfl)
      try simp only [Act.put, List.setIfInBounds_toArray, List.set_cons_zero, List.set_cons_succ, List.getElem_toArray, List.getElem_cons_zero, List.getElem_cons_succ]
      refine wpAnyH_take (i := 23) (oi := _) (v := ?_) rfl (by kernel_rfl) (by kernel_rfl) (by kernel_rfl) (fun _ _ _ h => h) (Or.inl ⟨by rfl, ?_⟩) (by assumption) ?_; rotate_left 1; · (intro w hSw; (try dsimp only at hSw); go_simp; first | done | with_reducible rfl)
      try simp only [Act.put, List.setIfInBounds_toArray, List.set_cons_zero, List.set_cons_succ, List.getElem_toArray, List.getElem_cons_zero, List.getElem_cons_succ]
      refine wpAnyH_ready (rs := [24]) (by kernel_rfl) (by simp) ?_
      refine AllReadyH.cons (o := _) rfl (fun K hK => ?_) AllReadyH.nil
      go_simp
      refine hK.out _ _ (HKq.out _) (fun hHeld => ?_)
      clear hK K
      try simp only [Act.put, List.setIfInBounds_toArray, List.set_cons_zero, List.set_cons_succ, List.getElem_toArray, List.getElem_cons_zero, List.getElem_cons_succ]
      refine wpAnyH_take (i := 25) (oi := _) (v := ?_) rfl (by kernel_rfl) (by kernel_rfl) (by kernel_rfl) (fun _ _ _ h => h) (Or.inl ⟨by rfl, ?_⟩) (by assumption) ?_; rotate_left 1; · (intro w hSw; (try dsimp only at hSw); go_simp; first | done | with_reducible rfl)
      try simp only [Act.put, List.setIfInBounds_toArray, List.set_cons_zero, List.set_cons_succ, List.getElem_toArray, List.getElem_cons_zero, List.getElem_cons_succ]
      refine wpAnyH_take (i := 26) (oi := _) (v := ?_) rfl (by kernel_rfl) (by kernel_rfl) (by kernel_rfl) (fun _ _ _ h => h) (Or.inl ⟨by rfl, ?_⟩) (by assumption) ?_; rotate_left 1; · (intro w hSw; (try dsimp only at hSw); go_simp; first | done | with_reducible rfl)
      try simp only [Act.put, List.setIfInBounds_toArray, List.set_cons_zero, List.set_cons_succ, List.getElem_toArray, List.getElem_cons_zero, List.getElem_cons_succ]
      refine wpAnyH_ready (rs := [27]) (by kernel_rfl) (by simp) ?_
      refine AllReadyH.cons (o := _) rfl (fun K hK => ?_) AllReadyH.nil
      go_simp
      refine hK.out _ _ (HKr.out _ _) (fun hHeld => ?_)
      clear hK K
      try simp only [Act.put, List.setIfInBounds_toArray, List.set_cons_zero, List.set_cons_succ, List.getElem_toArray, List.getElem_cons_zero, List.getElem_cons_succ]
      refine wpAnyH_done (by kernel_rfl) ?_ _
      (go_wp2_with fail; go_meet; exact ⟨A3, c3, blk_far (blk_put (blk_keepH HQ.out HB0.out hlq) 1 _ rfl) (by show gq ≠ gr; omega) _, blk_put (blk_far (blk_keepH HR.out HB0.out hlr) (by show gr ≠ gq; omega) _) 1 _ rfl, Lib.hid (((HS4.out.mono (by have := HL0.out; show _ ≤ w.heap.size; omega)).setCell (p := ⟨gq, 1, none⟩) _ (by show gq < gr + 1; omega)).setCell (p := ⟨gr, 1, none⟩) _ (by show gr < gr + 1; omega)), Lib.hid (((HB0.out.mono (Nat.le_of_lt hlq)).setCell (Nat.le_refl _) _).setCell (by show gq ≤ gr; omega) _)⟩)
  case rest =>
    obtain ⟨A3, c3, hq2, hr2, HS4, HBX⟩ := hcut
    clear a0 a1 b0 b1 q0 q1 r0 r1 qf0 qf1 rf0 rf1 HQ HR HL0 HB0 hla hlb hlq hlr
    have q0 : wc.cell? ⟨gq, 0, none⟩ = some (.bool false) := blk_cell hq2 0 _ rfl
    have q1 : wc.cell? ⟨gq, 1, none⟩ = some (.slice A3 xs.length c3) := blk_cell hq2 1 _ rfl
    have qf0 := blk_free hq2 0
    have r0 : wc.cell? ⟨gr, 0, none⟩ = some (.bool false) := blk_cell hr2 0 _ rfl
    have r1 : wc.cell? ⟨gr, 1, none⟩ = some (.slice none 0 0) := blk_cell hr2 1 _ rfl
    have rf0 := blk_free hr2 0
    have a0 : wc.cell? ⟨g, 0, none⟩ = some (.bool n) := (HBX.out.cell (p := ⟨g, 0, none⟩) ne1).trans HA0.out
    have b0 : wc.cell? ⟨g, 2, none⟩ = some (.bool false) := (HBX.out.cell (p := ⟨g, 2, none⟩) ne1).trans HA1.out
    have HQ2 := Lib.hid hq2
    have HR2 := Lib.hid hr2
    clear hq2 hr2 HC HA0 HA1
    have HEnd : Hid (BI ((wc.setCell ⟨gq, 0, none⟩ (.bool n)).setCell ⟨gr, 0, none⟩ (.bool false)) gq n (.slice A3 xs.length c3) xs ∧ ((wc.setCell ⟨gq, 0, none⟩ (.bool n)).setCell ⟨gr, 0, none⟩ (.bool false)).heap[gr]? = some (.cells #[.bool false, .slice none 0 0] 196 (0, 0)) ∧ Below gq w ((wc.setCell ⟨gq, 0, none⟩ (.bool n)).setCell ⟨gr, 0, none⟩ (.bool false))) := Lib.hid
      ⟨⟨blk_far (blk_put HQ2.out 0 _ rfl) (by show gq ≠ gr; omega) _, ((HS4.out.setCell (p := ⟨gq, 0, none⟩) _ (by show gq < gr + 1; omega)).setCell (p := ⟨gr, 0, none⟩) _ (by show gr < gr + 1; omega)).mono (by omega), HW.out.1, HW.out.2⟩, blk_put (blk_far HR2.out (by show gr ≠ gq; omega) _) 0 _ rfl, (HBX.out.setCell (Nat.le_refl _) _).setCell (by show gq ≤ gr; omega) _⟩
    have hn3 := HN.out
    obtain ⟨g1, g3⟩ := dec_yes hn3
    clear hn3
    cases n
    all_goals
      go_wp2_with fail
      go_region
      all_goals go_wp2
      all_goals go_ret2
      all_goals first | exact ⟨rfl, ⟨_, HEnd.out.1⟩, HEnd.out.2.1, HEnd.out.2.2⟩ | exact ⟨rfl, ⟨_, HEnd.out.1.drew⟩, HEnd.out.2.1, HEnd.out.2.2.drew⟩
set_option maxRecDepth 100000 in
theorem div1_c (gq g : Nat) (n : Bool) (va vb : Value) (xs : List Int) (w : World) (h : RT w g n va xs vb [1]) (hne : xs ≠ []) (hmax : xs.length ≤ 4398046511104)
    (hq : w.heap[gq]? = some (.cells #[.bool false, .slice none 0 0] 196 (0, 0))) (ne1 : g < gq) :
    Calls Tryz.prog 203 #[.pointer (some ⟨gq, 0, none⟩), .pointer (some ⟨g, 0, none⟩), .pointer (some ⟨g, 2, none⟩)] w fun e w' =>
      e = .returned (.pointer (some ⟨gq, 0, none⟩)) ∧ (∃ u, BI w' gq n u xs) ∧ Below gq w w' := by
  have b0 := h.pb.c0
  have hlq := lt_blk hq
  have HQ := Lib.hid (quoRem1_c gq w.heap.size g n va vb xs (w.alloc (.cells #[.bool false, .slice none 0 0] 196)) (h.below ((Below.refl _ w).alloc (Nat.le_refl _) _)) hne hmax (blk_alloc hq _) (blk_new _ _) hlq ne1)
  have HB0 : Hid (Below gq w (w.alloc (.cells #[.bool false, .slice none 0 0] 196))) := Lib.hid ((Below.refl _ w).alloc (Nat.le_of_lt hlq) _)
  clear h hne hmax hq
  go_enter Tryz.func203, Tryz.ntmps203
  go_wp2_with (go_at_call 221; (with_reducible refine HQ.out.mono ?_); rintro e w1 ⟨rfl, ⟨u, hbi⟩, hr1, hb1⟩; have r0 := blk_cell hr1 0 _ rfl; have HE := Lib.hid (And.intro hbi (HB0.out.trans hb1)); clear hbi hr1 hb1)
  go_ret
  exact ⟨rfl, ⟨u, HE.out.1⟩, HE.out.2⟩
end Go.Proofs.YtkplnbjgkhmbcaaGreatDoor
namespace Go.Proofs.YtkplnbjgkhmbcaaGreatDoor
open Go.RowKit Go.Shelf Go.Proofs.YtkplnbjgkhmbcaaGreatDoorW.PrintWords Go.Proofs.YtkplnbjgkhmbcaaGreatDoorW.PrintLast Go.Proofs.YtkplnbjgkhmbcaaGreatDoorW.PrintMore Go.Proofs.YtkplnbjgkhmbcaaGreatDoor.PFnCompare Go.Proofs.YtkplnbjgkhmbcaaGreatDoor.PCmp Go.Proofs.YtkplnbjgkhmbcaaGreatDoor.PbytesOf Go.Proofs.YtkplnbjgkhmbcaaGreatDoor.Pcmp
set_option linter.unusedVariables false
set_option linter.unusedSimpArgs false
structure Agr (B : Nat) (w w' : World) : Prop where
  sz : w.heap.size ≤ w'.heap.size
  eq : ∀ j, B ≤ j → j < w.heap.size → w'.heap[j]? = w.heap[j]?
theorem Below.agr {w w' : World} (h : Below w.heap.size w w') : Agr 0 w w' := ⟨h.size, fun j _ hj => h.block j hj⟩
theorem Agr.mono {B B' : Nat} {w w' : World} (h : Agr B w w') (hB : B ≤ B') : Agr B' w w' := ⟨h.sz, fun j h1 h2 => h.eq j (Nat.le_trans hB h1) h2⟩
theorem agr_set (w : World) (p : Addr) (v : Value) : Agr (p.block + 1) w (w.setCell p v) := by
  refine ⟨by simp [World.setCell], fun j h1 h2 => ?_⟩
  simp only [World.setCell, Array.getElem?_modify]
  rw [if_neg (by omega)]
theorem cell_of_block {w w' : World} {b : Nat} (h : w'.heap[b]? = w.heap[b]?) (o : Nat) : w'.cell? ⟨b, o, none⟩ = w.cell? ⟨b, o, none⟩ := by
  simp only [World.cell?, h]
theorem Sl.agr {k : IntKind} {B : Nat} {w w' : World} {v : Value} {l : List Int} (h : Sl k B w v l) (ha : Agr B w w') : Sl k B w' v l := by
  obtain ⟨A, c, rfl, h1, h2, h3⟩ := h
  refine ⟨A, c, rfl, h1, h2, fun hne => ?_⟩
  obtain ⟨b, o, rfl, hB, hlt, hc⟩ := h3 hne
  exact ⟨b, o, rfl, hB, Nat.lt_of_lt_of_le hlt ha.sz, fun j hj => (cell_of_block (ha.eq b hB hlt) _).trans (hc j hj)⟩
theorem ScaV.agr {B : Nat} {w w' : World} {v : Value} {s : Sca} (h : ScaV B w v s) (ha : Agr B w w') : ScaV B w' v s := by
  cases s <;> first | exact h | skip
  obtain ⟨u, rfl, h⟩ := h
  refine ⟨u, rfl, ?_⟩
  rcases h with h | ⟨h, g, neg, v, zs, e, hg, hi, r⟩
  · exact Or.inl h
  · exact Or.inr ⟨h, g, neg, v, zs, e, hg, ⟨(ha.eq g hg (lt_blk hi.blk)).trans hi.blk, hi.sl.agr (ha.mono (by omega)), hi.words, hi.top⟩, r⟩
theorem ScaV.lower {B B' : Nat} {w : World} {v : Value} {s : Sca} (h : ScaV B w v s) (hB : B' ≤ B) : ScaV B' w v s := by
  cases s <;> first | exact h | (obtain ⟨u, rfl, h⟩ := h; exact ⟨u, rfl, h.mono hB⟩)
structure HEnt where
  h : Int
  k : Value
  v : Value
def prevP (g i : Nat) : Value := if i = 0 then .pointer (some ⟨g, 44, none⟩) else .pointer (some ⟨g, 1 + 5 * (8 - i) + 3, none⟩)
def nextP (g n i : Nat) : Value := if i + 1 < n then .pointer (some ⟨g, 1 + 5 * (6 - i), none⟩) else .pointer none
def slotF (g : Nat) (es : List HEnt) (i f : Nat) : Value :=
  match es[i]? with
  | none => if f = 0 then .int .u32 0 else if f = 1 then .nilIface else if f = 2 then .nilIface else .pointer none
  | some e => if f = 0 then .int .u32 e.h else if f = 1 then e.k else if f = 2 then e.v else if f = 3 then nextP g es.length i else prevP g i
def htCell (g : Nat) (tab : Bool) (es : List HEnt) (it : Int) (o : Nat) : Value :=
  if o = 0 then (if tab then .slice (some ⟨g, 1, none⟩) 1 1 else .slice none 0 0)
  else if o < 41 then slotF g es (7 - (o - 1) / 5) ((o - 1) % 5)
  else if o = 41 then .pointer none
  else if o = 42 then .int .u32 es.length
  else if o = 43 then .int .u32 it
  else if o = 44 then (if es.length = 0 then .pointer none else .pointer (some ⟨g, 36, none⟩))
  else if o = 45 then (if tab then prevP g es.length else .pointer none)
  else .bool false
def htArr (g : Nat) (tab : Bool) (es : List HEnt) (it : Int) : Array Value := ((List.range 47).map (htCell g tab es it)).toArray
theorem htArr_at (g : Nat) (tab : Bool) (es : List HEnt) (it : Int) (o : Nat) (h : o < 47) : (htArr g tab es it)[o]? = some (htCell g tab es it o) := by
  unfold htArr
  simp [h]
def HTab (w : World) (g : Nat) (T : TypeId) (tab : Bool) (es : List HEnt) (it : Int) : Prop := w.heap[g]? = some (.cells (htArr g tab es it) T (0, 0))
theorem HTab.cell {w : World} {g : Nat} {T : TypeId} {tab : Bool} {es : List HEnt} {it : Int} (h : HTab w g T tab es it) (o : Nat) (ho : o < 47) : w.cell? ⟨g, o, none⟩ = some (htCell g tab es it o) := blk_cell h o _ (htArr_at g tab es it o ho)
theorem HTab.free {w : World} {g : Nat} {T : TypeId} {tab : Bool} {es : List HEnt} {it : Int} (h : HTab w g T tab es it) (o : Nat) : w.frozen? ⟨g, o, none⟩ = false := blk_free h o
def hT (y : VT) : Int := hashT 8 y
def hkey (y : VT) : Int := if hT y = 0 then 1 else hT y
def RowV (B : Nat) (w : World) (P : Value → VT → Prop) (sl : Value) (xs : List VT) : Prop :=
  ∃ A c us, sl = .slice A us.length c ∧ us.length ≤ c ∧ us.length = xs.length ∧
    (us ≠ [] → ∃ M o, A = some ⟨M, o, none⟩ ∧ B ≤ M ∧ ∀ i (h : i < us.length), w.cell? ⟨M, o + i, none⟩ = some us[i]) ∧
    ∀ i (h1 : i < us.length) (h2 : i < xs.length), P us[i] xs[i]
def PVs (B : Nat) (w : World) (v : Value) (x : VT) : Prop := ∃ s, Canon s x ∧ s.fit ∧ ScaV B w v s
def PV (B : Nat) : Nat → World → Value → VT → Prop
  | 0, w, v, x => PVs B w v x
  | n + 1, w, v, x => PVs B w v x ∨ (Box x ∧ (
      (x.f0 = 6 ∧ ∃ g sl, v = .iface 82 (.pointer (some ⟨g, 0, none⟩)) ∧ B ≤ g ∧ LT w g sl ∧ RowV B w (PV B n w) sl x.f5) ∨
      (x.f0 = 7 ∧ ∃ sl, v = .iface 98 sl ∧ RowV B w (PV B n w) sl x.f5) ∨
      (x.f0 = 8 ∧ ∃ g es, v = .iface 99 (.pointer (some ⟨g, 0, none⟩)) ∧ B ≤ g ∧ HTab w g 183 (!es.isEmpty) es 0 ∧ x.f5.length = es.length * 2 ∧
        ∀ i (h : i < es.length) (h1 : i * 2 < x.f5.length) (h2 : i * 2 + 1 < x.f5.length), PV B n w es[i].k x.f5[i * 2] ∧ PV B n w es[i].v x.f5[i * 2 + 1] ∧ es[i].h = hkey x.f5[i * 2]) ∨
      (x.f0 = 9 ∧ ∃ g es, v = .iface 102 (.pointer (some ⟨g, 0, none⟩)) ∧ B ≤ g ∧ HTab w g 185 (!es.isEmpty) es 0 ∧ x.f5.length = es.length ∧
        ∀ i (h : i < es.length) (h1 : i < x.f5.length), PV B n w es[i].k x.f5[i] ∧ es[i].v = .iface 137 (.int .u8 0) ∧ es[i].h = hkey x.f5[i])))
theorem RowV.agr {B : Nat} {w w' : World} {P P' : Value → VT → Prop} {sl : Value} {xs : List VT} (h : RowV B w P sl xs) (ha : Agr B w w') (hP : ∀ v x, P v x → P' v x) : RowV B w' P' sl xs := by
  obtain ⟨A, c, us, rfl, h1, h2, h3, h4⟩ := h
  refine ⟨A, c, us, rfl, h1, h2, fun hne => ?_, fun i q1 q2 => hP _ _ (h4 i q1 q2)⟩
  obtain ⟨M, o, rfl, hB, hc⟩ := h3 hne
  refine ⟨M, o, rfl, hB, fun i hi => ?_⟩
  exact (cell_of_block (ha.eq M hB (lt_of_cell (hc i hi))) _).trans (hc i hi)
theorem RowV.lower {B B' : Nat} {w : World} {P P' : Value → VT → Prop} {sl : Value} {xs : List VT} (h : RowV B w P sl xs) (hB : B' ≤ B) (hP : ∀ v x, P v x → P' v x) : RowV B' w P' sl xs := by
  obtain ⟨A, c, us, rfl, h1, h2, h3, h4⟩ := h
  refine ⟨A, c, us, rfl, h1, h2, fun hne => ?_, fun i q1 q2 => hP _ _ (h4 i q1 q2)⟩
  obtain ⟨M, o, rfl, hB2, hc⟩ := h3 hne
  exact ⟨M, o, rfl, Nat.le_trans hB hB2, hc⟩
theorem PVs.agr {B : Nat} {w w' : World} {v : Value} {x : VT} (h : PVs B w v x) (ha : Agr B w w') : PVs B w' v x := by
  obtain ⟨s, h1, h2, h3⟩ := h
  exact ⟨s, h1, h2, h3.agr ha⟩
theorem PVs.lower {B B' : Nat} {w : World} {v : Value} {x : VT} (h : PVs B w v x) (hB : B' ≤ B) : PVs B' w v x := by
  obtain ⟨s, h1, h2, h3⟩ := h
  exact ⟨s, h1, h2, h3.lower hB⟩
theorem PV.agr {B : Nat} {w w' : World} (ha : Agr B w w') : ∀ {n : Nat} {v : Value} {x : VT}, PV B n w v x → PV B n w' v x
  | 0, v, x, h => PVs.agr h ha
  | n + 1, v, x, h => by
    rcases h with h | ⟨hb, h⟩
    · exact Or.inl (h.agr ha)
    · refine Or.inr ⟨hb, ?_⟩
      rcases h with ⟨h6, g, sl, e, hg, hl, hr⟩ | ⟨h7, sl, e, hr⟩ | ⟨h8, g, es, e, hg, ht, hl, hk⟩ | ⟨h9, g, es, e, hg, ht, hl, hk⟩
      · exact Or.inl ⟨h6, g, sl, e, hg, (ha.eq g hg (lt_blk hl)).trans hl, hr.agr ha fun _ _ h => PV.agr ha h⟩
      · exact Or.inr (Or.inl ⟨h7, sl, e, hr.agr ha fun _ _ h => PV.agr ha h⟩)
      · exact Or.inr (Or.inr (Or.inl ⟨h8, g, es, e, hg, (ha.eq g hg (lt_blk ht)).trans ht, hl, fun i q h1 h2 => ⟨PV.agr ha (hk i q h1 h2).1, PV.agr ha (hk i q h1 h2).2.1, (hk i q h1 h2).2.2⟩⟩))
      · exact Or.inr (Or.inr (Or.inr ⟨h9, g, es, e, hg, (ha.eq g hg (lt_blk ht)).trans ht, hl, fun i q h1 => ⟨PV.agr ha (hk i q h1).1, (hk i q h1).2⟩⟩))
theorem PV.lower {B B' : Nat} {w : World} (hB : B' ≤ B) : ∀ {n : Nat} {v : Value} {x : VT}, PV B n w v x → PV B' n w v x
  | 0, v, x, h => PVs.lower h hB
  | n + 1, v, x, h => by
    rcases h with h | ⟨hb, h⟩
    · exact Or.inl (h.lower hB)
    · refine Or.inr ⟨hb, ?_⟩
      rcases h with ⟨h6, g, sl, e, hg, hl, hr⟩ | ⟨h7, sl, e, hr⟩ | ⟨h8, g, es, e, hg, ht, hl, hk⟩ | ⟨h9, g, es, e, hg, ht, hl, hk⟩
      · exact Or.inl ⟨h6, g, sl, e, Nat.le_trans hB hg, hl, hr.lower hB fun _ _ h => PV.lower hB h⟩
      · exact Or.inr (Or.inl ⟨h7, sl, e, hr.lower hB fun _ _ h => PV.lower hB h⟩)
      · exact Or.inr (Or.inr (Or.inl ⟨h8, g, es, e, Nat.le_trans hB hg, ht, hl, fun i q h1 h2 => ⟨PV.lower hB (hk i q h1 h2).1, PV.lower hB (hk i q h1 h2).2.1, (hk i q h1 h2).2.2⟩⟩))
      · exact Or.inr (Or.inr (Or.inr ⟨h9, g, es, e, Nat.le_trans hB hg, ht, hl, fun i q h1 => ⟨PV.lower hB (hk i q h1).1, (hk i q h1).2⟩⟩))
theorem PV.below {B n : Nat} {w w' : World} {v : Value} {x : VT} (h : PV B n w v x) (hb : Below w.heap.size w w') : PV B n w' v x := PV.agr ((Below.agr hb).mono (Nat.zero_le _)) h
theorem PV.setCell {B n : Nat} {w : World} {v : Value} {x : VT} (h : PV B n w v x) {p : Addr} (u : Value) (hp : p.block < B) : PV B n (w.setCell p u) v x := PV.agr ((agr_set w p u).mono hp) h
theorem PV.of_s {B : Nat} {w : World} {v : Value} {x : VT} (h : PVs B w v x) : ∀ n, PV B n w v x
  | 0 => h
  | n + 1 => Or.inl h
theorem PV.to_s {B n : Nat} {w : World} {v : Value} {x : VT} (h : PV B n w v x) (hk : x.f0 < 6) : PVs B w v x := by
  cases n with
  | zero => exact h
  | succ n =>
    rcases h with h | ⟨_, h⟩
    · exact h
    · exfalso
      rcases h with ⟨h, _⟩ | ⟨h, _⟩ | ⟨h, _⟩ | ⟨h, _⟩ <;> omega
theorem PVs.kind {B : Nat} {w : World} {v : Value} {x : VT} (h : PVs B w v x) : 0 ≤ x.f0 ∧ x.f0 < 6 := by
  obtain ⟨s, h, _⟩ := h
  rw [h.kind]
  cases s <;> simp [Sca.kind]
theorem PV.iface {B n : Nat} {w : World} {v : Value} {x : VT} (h : PV B n w v x) : ∃ T u, v = .iface T u := by
  have hs : PVs B w v x → ∃ T u, v = .iface T u := fun ⟨s, _, _, h⟩ => sca_one h
  cases n with
  | zero => exact hs h
  | succ n =>
    rcases h with h | ⟨_, ⟨_, g, sl, e, _⟩ | ⟨_, sl, e, _⟩ | ⟨_, g, es, e, _⟩ | ⟨_, g, es, e, _⟩⟩
    · exact hs h
    all_goals exact ⟨_, _, e⟩
theorem hashT_fuel : ∀ (n a b : Nat) (y : VT), HC n y → n ≤ a → n ≤ b → hashT a y = hashT b y
  | n, a, b, y, h, ha, hb => by
    rcases h.cases with ⟨s, hs, _⟩ | ⟨k7, _, _, m, rfl, hc⟩
    · rw [hashT_sca hs, hashT_sca hs]
    · obtain ⟨a, rfl⟩ : ∃ a', a = a' + 1 := ⟨a - 1, by omega⟩
      obtain ⟨b, rfl⟩ : ∃ b', b = b' + 1 := ⟨b - 1, by omega⟩
      rw [hashT_tup a k7, hashT_tup b k7]
      congr 2
      refine List.map_congr_left fun q hq => ?_
      exact hashT_fuel m a b q (hc q hq) (by omega) (by omega)
theorem hT_tup {n : Nat} {y : VT} (h : HC n y) (hn : n ≤ 8) (h7 : y.f0 = 7) : hT y = (tupFold (y.f5.length : Int) (y.f5.map hT)).1 := by
  rcases h.cases with h | ⟨_, _, _, m, rfl, hc⟩
  · exfalso
    have := h.kind.2
    omega
  · unfold hT
    rw [hashT_tup 7 h7]
    congr 2
    refine List.map_congr_left fun q hq => ?_
    exact hashT_fuel m 7 8 q (hc q hq) (by omega) (by omega)
theorem hT_sca {s : Sca} {y : VT} (h : Canon s y) : hT y = hashS s := hashT_sca h 8
end Go.Proofs.YtkplnbjgkhmbcaaGreatDoor
