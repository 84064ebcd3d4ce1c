/- For every number and every two Vals, the law FnCompare returns true: a comparison of the two values tells what the reference tells; and the arguments read as before. No condition; the five thresholds and limits of the packages that the row lists are tied to the program's text by the given card. -/
import Derived.Test.YtkplnbjgkhmbcaaGreatDoorCards
import Derived.Test.YtkplnbjgkhmbcaaGreatDoorTie
import Derived.Test.YtkplnbjgkhmbcaaGreatDoorXLawCmp1F
import Derived.Test.YtkplnbjgkhmbcaaGreatDoorX1
import Derived.WalkKit
import Derived.ProofKit
import Derived.OpenShut
import Derived.OpenVars
import Derived.ChangeSame
import Derived.Deep.DeepHandedRow
import Derived.Lib.LaidTab
namespace Go.Proofs.YtkplnbjgkhmbcaaGreatDoor.fnCompare
open Go.ChangeShapes Go.WideShapes Go.ChangeAt Go.RowKit
set_option linter.unusedVariables false
theorem own : ownKnob Tryz.prog.godebug = none := by kernel_rfl
theorem laidOut : laidOutB Tryz.prog = true := by kernel_rfl
section
variable {H : Type} {enc : TypeId × Value → H} {P : Program}
theorem post_law {f : Func} {s : ChangeSpec} {apart fresh handsOn : Bool} {W W' : World} {args : Array Value} {v : Value} {ds gs : List (DataW H)} {before pa pv : List MemPlace}
    (hW : DataW.Whole enc P f.params.toList s.vars apart W args.toList ds gs before)
    (hres : ∀ (b : Nat) (sp : Nat → Bool) (hd : Bool), DataW.TrodAll enc P W' b sp hd f.resultTypes.toList (v.resultList f.resultTypes.size) (s.fn H (ds ++ gs)).results [])
    (hargs : DataW.TrodAll enc P W' 0 (fun b => decide (b < W.heap.size)) true f.params.toList args.toList (s.fn H (ds ++ gs)).args pa)
    (hvars : DataW.TrodVars enc P W' (fun b => decide (b < W.heap.size)) s.vars (s.fn H (ds ++ gs)).vars pv)
    (hps : before = pa ++ pv) (hb : Below W.heap.size W W') :
    s.post enc P f apart fresh handsOn false W args v W' := by
  refine ⟨ds, gs, before, [], pa, pv, hW, hres _ _ _, hargs, hvars, World.keptBut_mono (fun p hp => ⟨hp, ?_⟩) (hb.frame (· ∈ before)), fun h => by cases h⟩
  rw [hps, List.mem_append] at hp
  exact Or.inr hp
end
theorem trodVars_len {H : Type} {enc : TypeId × Value → H} {P : Program} {w : World} {sp : Nat → Bool} : ∀ {ns : List String} {gs : List (DataW H)} {ps : List MemPlace}, DataW.TrodVars enc P w sp ns gs ps → gs.length = ns.length
  | [], [], _, _ => rfl
  | [], _ :: _, _, h => h.elim
  | _ :: _, [], _, h => h.elim
  | n :: ns, d :: ds, ps, h => by
    obtain ⟨g, t, cs, fuel, p, q, h1, h2, h3, h4, hs, e⟩ := h
    simp [trodVars_len hs]
theorem five {α : Type} {l : List α} (h : l.length = 5) : ∃ a b c d e, l = [a, b, c, d, e] := by
  match l, h with
  | [a, b, c, d, e], _ => exact ⟨a, b, c, d, e, rfl⟩
theorem laid_reads {P : Program} {w : World} : ∀ {l : List (String × DataW Unit)} {ps : List MemPlace}, DataW.LaidVars P w l ps → ∀ n d, (n, d) ∈ l →
    ∃ g t cs fuel p, P.globalNamed n = some g ∧ (P.globals[g]?).map (·.type) = some t ∧ w.var? P n = some cs ∧ DataW.trod (fun _ => ()) P w 0 (fun _ => true) false fuel t cs.toList = some (d, p)
  | [], _, _, _, _, hm => by cases hm
  | (n', d') :: r, ps, h, n, d, hm => by
    obtain ⟨g, t, cs, fuel, p, q, h1, h2, h3, h4, h5, _⟩ := h
    rcases List.mem_cons.1 hm with e | e
    · cases e
      exact ⟨g, t, cs, fuel, p, h1, h2, h3, h4⟩
    · exact laid_reads h5 n d e
theorem laid_plain {W : World} (h : laidMetH Tryz.prog Rows.fnCompareRow.laid W) : laidMet Tryz.prog Rows.fnCompareRow.laid W := by
  have e : (Rows.fnCompareRow.laid.filter fun x => x.2.handleName?.isSome) = [] := by rfl
  unfold laidMetH at h
  rw [e] at h
  exact h
theorem int_cell {W : World} {n : String} {g : Nat} {z : Int} (h : laidMetH Tryz.prog Rows.fnCompareRow.laid W) (hm : (n, (DataW.lit (.int .i64 z) : DataW Unit)) ∈ Rows.fnCompareRow.laid) (hg : Tryz.prog.globalNamed n = some g) (ht : (Tryz.prog.globals[g]?).map (·.type) = some 3) : W.cell? ⟨g, 0, none⟩ = some (.int .i64 z) := by
  obtain ⟨ps, hv, _⟩ := laid_plain h
  obtain ⟨g', t, cs, fuel, p, h1, h2, h3, h4⟩ := laid_reads hv n _ hm
  obtain rfl := Option.some.inj (hg.symm.trans h1)
  obtain rfl := Option.some.inj (ht.symm.trans h2)
  obtain ⟨z', e1, e2, _⟩ := DataW.trod_int Tryz.underlying3 h4
  simp only [Prod.mk.injEq, DataW.lit.injEq, Lit.int.injEq, true_and] at e2
  obtain ⟨rfl, _⟩ := e2
  unfold World.var? at h3
  rw [hg] at h3
  simp only [Option.bind_some] at h3
  unfold World.cell?
  split at h3
  · rename_i cs' t' fz hh
    simp only [Option.some.injEq] at h3
    subst h3
    have e3 : cs' = #[.int .i64 z] := by
      obtain ⟨l⟩ := cs'
      exact congrArg List.toArray (show l = _ from e1)
    rw [hh, e3]
    rfl
  · cases h3
theorem thr_of {W : World} (h : laidMetH Tryz.prog Rows.fnCompareRow.laid W) : Thr W :=
  int_cell (n := "given.example/pub-larkspur/pub/bigall.karatsubaThreshold") h (by simp [Rows.fnCompareRow, Rows.laid_given_example_pub_larkspur_pub_bigall_karatsubaThreshold]) (by kernel_rfl) (by kernel_rfl)
theorem lim_of {W : World} (h : laidMetH Tryz.prog Rows.fnCompareRow.laid W) : Lim W :=
  int_cell (n := "given.example/pub-larkspur/pub/starlark/starlark.CompareLimit") h (by simp [Rows.fnCompareRow, Rows.laid_given_example_pub_larkspur_pub_starlark_starlark_CompareLimit]) (by kernel_rfl) (by kernel_rfl)
set_option maxRecDepth 100000 in
theorem contract (H : Type) (enc : TypeId × Value → H) (W : World) (base : Nat) (args : Array Value) (ds gs : List (DataW H)) (before : List MemPlace)
    (hval0 : ∀ (j : Nat) t v, Tryz.f5.params[j]? = some t → args[j]? = some v → Value.okWide Tryz.prog W .any base t v)
    (hW : DataW.Whole enc Tryz.prog Tryz.f5.params.toList Rows.fnCompareSpec.vars false W args.toList ds gs before) (hL : laidMetH Tryz.prog Rows.fnCompareRow.laid W) :
    Calls Tryz.prog 5 args W fun e W' => ∃ v, e = .returned v ∧ Rows.fnCompareSpec.post enc Tryz.prog Tryz.f5 false true false false W args v W' := by
  have hval : ∀ (j : Nat) t v, Tryz.f5.params[j]? = some t → args[j]? = some v → Value.okWide Tryz.prog W .any base t v := hval0
  have hlt := hW.lt
  have hW' := hW
  obtain ⟨p, q, hA0, hV, rfl, hfz, hnd⟩ := hW
  have hA : DataW.TrodAll enc Tryz.prog W 0 (fun _ => true) true Tryz.f5.params.toList args.toList ds p := hA0
  rw [Tryz.params5] at hA hval
  obtain ⟨v0, vs0, d0, ds0, p0, q0, hargs, rfl, rfl, h0, r0⟩ := trodAll_cons hA
  obtain ⟨v1, vs1, d1, ds1, p1, q1, rfl, rfl, rfl, h1, r1⟩ := trodAll_cons r0
  obtain ⟨v2, vs2, d2, ds2, p2, q2, rfl, rfl, rfl, h2, r2⟩ := trodAll_cons r1
  obtain ⟨rfl, rfl, rfl⟩ := trodAll_nil r2
  obtain rfl : args = #[v0, v1, v2] := by cases args; simp_all
  have hl0 : ∀ x ∈ p0, x.block < W.heap.size := fun x hx => hlt x (by simp [hx])
  have hl1 : ∀ x ∈ p1, x.block < W.heap.size := fun x hx => hlt x (by simp [hx])
  have hl2 : ∀ x ∈ p2, x.block < W.heap.size := fun x hx => hlt x (by simp [hx])
  have k0 := fun W' (hb : Below W.heap.size W W') => Below.trod laidOut (by kernel_rfl) (of_decide_eq_true (by kernel_rfl)) h0 hb hl0
  have k1 := fun W' (hb : Below W.heap.size W W') => Below.trod laidOut (by kernel_rfl) (of_decide_eq_true (by kernel_rfl)) h1 hb hl1
  have k2 := fun W' (hb : Below W.heap.size W W') => Below.trod laidOut (by kernel_rfl) (of_decide_eq_true (by kernel_rfl)) h2 hb hl2
  have kv := fun W' (hb : Below W.heap.size W W') => Below.trodVars laidOut hb (by kernel_rfl) hV
  obtain ⟨g1, g2, g3, g4, g5, rfl⟩ : ∃ g1 g2 g3 g4 g5, gs = [g1, g2, g3, g4, g5] := five (trodVars_len hV)
  obtain ⟨z0, rfl⟩ := okWide_int Tryz.underlying3 (hval 0 3 v0 rfl rfl)
  obtain ⟨cs, rfl, hsz⟩ := okWide_struct Tryz.underlying26 (hval 1 26 v1 rfl rfl)
  obtain ⟨cs2, rfl, hsz2⟩ := okWide_struct Tryz.underlying26 (hval 2 26 v2 rfl rfl)
  have done : ∀ (e : Ending) W', e = .returned (.bool true) → Below W.heap.size W W' → ∃ v, e = .returned v ∧ Rows.fnCompareSpec.post enc Tryz.prog Tryz.f5 false true false false W #[.int .i64 z0, .agg cs, .agg cs2] v W' := by
    intro e W' he hb
    exact ⟨_, he, post_law (pa := (p0 ++ (p1 ++ (p2 ++ [])))) (pv := q) hW' (fun _ _ _ => trodAll_cons_mk (shut_bool Tryz.underlying4 _) trodAll_mk0) (trodAll_cons_mk (k0 W' hb) (trodAll_cons_mk (k1 W' hb) (trodAll_cons_mk (k2 W' hb) trodAll_mk0))) (kv W' hb) rfl hb⟩
  obtain ⟨fuel1, hf1⟩ := h1
  obtain ⟨x, A2, A5, c2, n5, c5, hcs, hR⟩ := valN_open 3 hf1
  obtain rfl : cs = six5 x A2 c2 A5 n5 c5 := by
    obtain ⟨l⟩ := cs
    exact congrArg List.toArray (show l = _ from hcs)
  obtain ⟨fuel2, hf2⟩ := h2
  obtain ⟨y, B2, B5, e2, m5, e5, hcs2, hR2⟩ := valN_open 3 hf2
  obtain rfl : cs2 = six5 y B2 e2 B5 m5 e5 := by
    obtain ⟨l⟩ := cs2
    exact congrArg List.toArray (show l = _ from hcs2)
  exact (lawCompare_c z0 x y A2 c2 A5 n5 c5 B2 e2 B5 m5 e5 W hR hR2 (thr_of hL) (lim_of hL)).mono fun e W' ⟨he, hb⟩ => done e W' he hb
def setRow (cs : Array Value) : Obj → Obj
  | .cells _ t frozen => .cells cs t frozen
  | o => o
noncomputable def laidWorld (os : Os) : World :=
  { World.holding Tryz.prog os ⟨#[], #[], []⟩ with heap := (((((World.holding Tryz.prog os ⟨#[], #[], []⟩).heap.modify 3 (setRow #[.int .i64 40])).modify 2 (setRow #[.int .i64 40])).modify 4 (setRow #[.int .i64 12])).modify 5 (setRow #[.int .i64 80])).modify 0 (setRow #[.int .i64 10]) }
theorem laid_met (os : Os) : laidMet Tryz.prog Rows.fnCompareRow.laid ((laidWorld os).forCall (fun _ _ => 0) ⟨#[], #[.int .i64 0, .agg #[.int .i64 0, .bool false, .slice none 0 0, .int .u64 0, .string ⟨#[]⟩, .slice none 0 0], .agg #[.int .i64 0, .bool false, .slice none 0 0, .int .u64 0, .string ⟨#[]⟩, .slice none 0 0]], []⟩).memory :=
  laidMet_of_run' 8 (by kernel_rfl) (by kernel_rfl)
theorem reads (os : Os) {H : Type} (enc : TypeId × Value → H) : ∃ gs places, DataW.whole enc Tryz.prog ((laidWorld os).forCall (fun _ _ => 0) ⟨#[], #[.int .i64 0, .agg #[.int .i64 0, .bool false, .slice none 0 0, .int .u64 0, .string ⟨#[]⟩, .slice none 0 0], .agg #[.int .i64 0, .bool false, .slice none 0 0, .int .u64 0, .string ⟨#[]⟩, .slice none 0 0]], []⟩).memory Tryz.f5.params.toList Rows.fnCompareSpec.vars false #[Value.int .i64 0, .agg #[.int .i64 0, .bool false, .slice none 0 0, .int .u64 0, .string ⟨#[]⟩, .slice none 0 0], .agg #[.int .i64 0, .bool false, .slice none 0 0, .int .u64 0, .string ⟨#[]⟩, .slice none 0 0]].toList 8 = some ([.lit (.int .i64 0), .agg [.lit (.int .i64 0), .lit (.bool false), .nil, .lit (.int .u64 0), .lit (.string []), .nil], .agg [.lit (.int .i64 0), .lit (.bool false), .nil, .lit (.int .u64 0), .lit (.string []), .nil]], gs, places) := by
  have h : (DataW.whole enc Tryz.prog ((laidWorld os).forCall (fun _ _ => 0) ⟨#[], #[.int .i64 0, .agg #[.int .i64 0, .bool false, .slice none 0 0, .int .u64 0, .string ⟨#[]⟩, .slice none 0 0], .agg #[.int .i64 0, .bool false, .slice none 0 0, .int .u64 0, .string ⟨#[]⟩, .slice none 0 0]], []⟩).memory Tryz.f5.params.toList Rows.fnCompareSpec.vars false #[Value.int .i64 0, .agg #[.int .i64 0, .bool false, .slice none 0 0, .int .u64 0, .string ⟨#[]⟩, .slice none 0 0], .agg #[.int .i64 0, .bool false, .slice none 0 0, .int .u64 0, .string ⟨#[]⟩, .slice none 0 0]].toList 8).map (fun x => x.1) = some [.lit (.int .i64 0), .agg [.lit (.int .i64 0), .lit (.bool false), .nil, .lit (.int .u64 0), .lit (.string []), .nil], .agg [.lit (.int .i64 0), .lit (.bool false), .nil, .lit (.int .u64 0), .lit (.string []), .nil]] := by kernel_rfl
  obtain ⟨⟨a, g, p⟩, h1, h2⟩ := Option.map_eq_some_iff.1 h
  obtain rfl : a = _ := h2
  exact ⟨g, p, h1⟩
set_option maxRecDepth 100000 in
theorem lifted (os : Os) (started : os.Started) (H : Type) (enc : TypeId × Value → H) (F : Stop.Interp) :
    ReturnsInHanded {} Tryz.checked os 5 .any ((OpenSpec.ofChange Rows.fnCompareSpec).preRow enc Tryz.prog Tryz.f5 Rows.fnCompareRow.domain false Rows.fnCompareRow.laid) (((OpenSpec.ofChange Rows.fnCompareSpec).at F).post enc Tryz.prog Tryz.f5 false true false false) := by
  obtain ⟨gs, places, hx⟩ := reads os enc
  refine returnsInHanded_of_row (C := Tryz.checked) (s := OpenSpec.ofChange Rows.fnCompareSpec) own started (by kernel_rfl) Tryz.func5
    (witness_row_at (enc := enc) (C := Tryz.checked) false (laidWorld os) #[.int .i64 0, .agg #[.int .i64 0, .bool false, .slice none 0 0, .int .u64 0, .string ⟨#[]⟩, .slice none 0 0], .agg #[.int .i64 0, .bool false, .slice none 0 0, .int .u64 0, .string ⟨#[]⟩, .slice none 0 0]] rfl (by kernel_rfl) (by kernel_rfl) (by kernel_rfl)
      (OpenSpec.preRow_of_cond 8 hx (by kernel_rfl) (fun k hk => by cases hk) (by kernel_rfl) (laid_met os))) ?_
  intro W base args ds gs before hval hW _ _ _ hL _ _
  exact contract H enc W base args ds gs before hval hW hL
theorem said : Rows.FnCompareSaid :=
  OpenClaim.holds_of_cond 5 Tryz.f5 rfl rfl rfl rfl rfl rfl rfl ⟨rfl, rfl, rfl, rfl, rfl⟩ rfl rfl rfl rfl rfl (by kernel_rfl) Tryz.func5 closed
    (of_decide_eq_true (by kernel_rfl)) (by unfold Func.isWrapper; first | (rw [if_pos (by decide +kernel)]; kernel_rfl) | (rw [if_neg (by decide +kernel)]; exact ⟨rfl, rfl⟩))
    (fun os started H enc _ F => by rw [OpenClaim.pre_eq_preRow]; exact lifted os started H enc F)
theorem plain (f : FuncId) (fn : Func) (hf : Tryz.pinned.checked.prog.funcNamed Rows.fnCompareRow.func = some f) (hfn : Tryz.pinned.checked.prog.funcs[f]? = some fn) :
    true = Tryz.pinned.checked.prog.looks [] ∧ ∀ (j : Nat) t, fn.params[j]? = some t → Tryz.pinned.checked.prog.wantsStandIn t = false := by
  obtain rfl : f = 5 := Option.some.inj ((show Tryz.prog.funcNamed Rows.fnCompareRow.func = some 5 by kernel_rfl).symm.trans hf) |>.symm
  obtain rfl : fn = Tryz.f5 := (Option.some.inj (Tryz.func5.symm.trans hfn)).symm
  refine ⟨by kernel_rfl, fun j t ht => ?_⟩
  rw [Tryz.params5] at ht
  have hm : t ∈ (#[3, 26, 26] : Array TypeId) := Array.mem_of_getElem? ht
  have hm2 : t = 3 ∨ t = 26 := by
    have hl : t ∈ ([3, 26, 26] : List TypeId) := by simpa using hm
    exact (show ∀ u ∈ ([3, 26, 26] : List TypeId), u = 3 ∨ u = 26 by decide) t hl
  rcases hm2 with rfl | rfl
  · exact (show Tryz.prog.wantsStandIn 3 = false by kernel_rfl)
  · exact (show Tryz.prog.wantsStandIn 26 = false by kernel_rfl)
theorem card : Rows.FnCompareCardSaid :=
  Claim7.holds_tied_plain_at .later [] _ _ _ _ said (fun _ h => by cases h) (by kernel_rfl) (fun _ h => by cases h) fnCompare_row_tie rfl ⟨rfl, rfl⟩ (by kernel_rfl) rfl plain (by kernel_rfl)
#print axioms card
end Go.Proofs.YtkplnbjgkhmbcaaGreatDoor.fnCompare
