/- For every sign and every slice of bytes, the law FnAsInt32 returns true: starlark's AsInt32 gives the number where it is an int32, and refuses all others; and the arguments read as before. No condition; the five thresholds and limits of the packages that the row lists are tied to the program's text by the given card. -/
import Derived.Test.YtkkmnglnnfmnaaaGreatDoorCards
import Derived.Test.YtkkmnglnnfmnaaaGreatDoorTie
import Derived.Test.YtkkmnglnnfmnaaaGreatDoorAsInt32B
import Derived.WalkKit
import Derived.ProofKit
import Derived.OpenShut
import Derived.OpenVars
import Derived.ChangeSame
import Derived.Deep.DeepHandedRow
import Derived.Lib.LaidTab
namespace Go.Proofs.YtkkmnglnnfmnaaaGreatDoor.fnAsInt32
open Go.ChangeShapes Go.WideShapes Go.ChangeAt Go.RowKit
set_option linter.unusedVariables false

theorem own : ownKnob Tryz.prog.godebug = none := by kernel_rfl
theorem laidOut : laidOutB Tryz.prog = true := by kernel_rfl

section
variable {H : Type} {enc : TypeId × Value → H} {P : Program}
/-- What a law owes behind the call, where nothing below the heap's old size has turned. -/
theorem post_law {f : Func} {s : ChangeSpec} {apart fresh handsOn : Bool} {W W' : World} {args : Array Value} {v : Value} {ds gs : List (DataW H)} {before pa pv : List MemPlace}
    (hW : DataW.Whole enc P f.params.toList s.vars apart W args.toList ds gs before)
    (hres : ∀ (b : Nat) (sp : Nat → Bool) (hd : Bool), DataW.TrodAll enc P W' b sp hd f.resultTypes.toList (v.resultList f.resultTypes.size) (s.fn H (ds ++ gs)).results [])
    (hargs : DataW.TrodAll enc P W' 0 (fun b => decide (b < W.heap.size)) true f.params.toList args.toList (s.fn H (ds ++ gs)).args pa)
    (hvars : DataW.TrodVars enc P W' (fun b => decide (b < W.heap.size)) s.vars (s.fn H (ds ++ gs)).vars pv)
    (hps : before = pa ++ pv) (hb : Below W.heap.size W W') :
    s.post enc P f apart fresh handsOn false W args v W' := by
  refine ⟨ds, gs, before, [], pa, pv, hW, hres _ _ _, hargs, hvars, World.keptBut_mono (fun p hp => ⟨hp, ?_⟩) (hb.frame (· ∈ before)), fun h => by cases h⟩
  rw [hps, List.mem_append] at hp
  exact Or.inr hp
end

/-- A slice of integers that came in. -/
theorem sl_open {k : IntKind} {w : World} {a : Addr} {len cap : Nat} {zs : List Int} (hl : len ≤ cap) (hm : cap ≤ maxLen) (hz : zs.length = cap) (hc : ∀ i, i < zs.length → w.cell? (a.add i) = some (.int k (zs.getD i 0))) :
    Sl k 0 w (.slice (some a) len cap) (zs.take len) := by
  unfold maxLen at hm
  have hlen : (zs.take len).length = len := by rw [List.length_take]; omega
  refine ⟨some a, cap, by rw [hlen], by omega, by omega, fun hne => ?_⟩
  have hp : 0 < len := by rw [← hlen]; exact List.length_pos_iff.2 hne
  obtain ⟨b, off, rfl, hc'⟩ := ints_at hc (by omega)
  have h0 := hc' 0 (by omega)
  refine ⟨b, off, rfl, Nat.zero_le _, lt_of_cell h0, fun j hj => ?_⟩
  rw [hc' j (by omega), List.getElem_take]
  simp [List.getD_eq_getElem?_getD, List.getElem?_eq_getElem (show j < zs.length by omega)]

theorem trodVars_len {H : Type} {enc : TypeId × Value → H} {P : Program} {w : World} {sp : Nat → Bool} : ∀ {ns : List String} {gs : List (DataW H)} {ps : List MemPlace}, DataW.TrodVars enc P w sp ns gs ps → gs.length = ns.length
  | [], [], _, _ => rfl
  | [], _ :: _, _, h => h.elim
  | _ :: _, [], _, h => h.elim
  | n :: ns, d :: ds, ps, h => by
    obtain ⟨g, t, cs, fuel, p, q, h1, h2, h3, h4, hs, e⟩ := h
    simp [trodVars_len hs]
theorem five {α : Type} {l : List α} (h : l.length = 5) : ∃ a b c d e, l = [a, b, c, d, e] := by
  match l, h with
  | [a, b, c, d, e], _ => exact ⟨a, b, c, d, e, rfl⟩

set_option maxRecDepth 100000 in
/-- What the walk gives, for every argument. -/
theorem contract (H : Type) (enc : TypeId × Value → H) (W : World) (base : Nat) (args : Array Value) (ds gs : List (DataW H)) (before : List MemPlace)
    (hval0 : ∀ (j : Nat) t v, Tryz.f3.params[j]? = some t → args[j]? = some v → Value.okWide Tryz.prog W .any base t v)
    (hW : DataW.Whole enc Tryz.prog Tryz.f3.params.toList Rows.fnAsInt32Spec.vars false W args.toList ds gs before) :
    Calls Tryz.prog 3 args W fun e W' => ∃ v, e = .returned v ∧ Rows.fnAsInt32Spec.post enc Tryz.prog Tryz.f3 false true false false W args v W' := by
  have hval : ∀ (j : Nat) t v, Tryz.f3.params[j]? = some t → args[j]? = some v → Value.okWide Tryz.prog W .any base t v := hval0
  have hlt := hW.lt
  have hW' := hW
  obtain ⟨p, q, hA0, hV, rfl, hfz, hnd⟩ := hW
  have hA : DataW.TrodAll enc Tryz.prog W 0 (fun _ => true) true Tryz.f3.params.toList args.toList ds p := hA0
  rw [Tryz.params3] at hA hval
  obtain ⟨v0, vs0, d0, ds0, p0, q0, hargs, rfl, rfl, h0, r0⟩ := trodAll_cons hA
  obtain ⟨v1, vs1, d1, ds1, p1, q1, hargs1, rfl, rfl, h1, r1⟩ := trodAll_cons r0
  obtain ⟨rfl, rfl, rfl⟩ := trodAll_nil r1
  obtain rfl : args = #[v0, v1] := by cases args; simp_all
  have hl0 : ∀ x ∈ p0, x.block < W.heap.size := fun x hx => hlt x (by simp [hx])
  have hl1 : ∀ x ∈ p1, x.block < W.heap.size := fun x hx => hlt x (by simp [hx])
  have k0 := fun W' (hb : Below W.heap.size W W') => Below.trod laidOut (by kernel_rfl) (of_decide_eq_true (by kernel_rfl)) h0 hb hl0
  have k1 := fun W' (hb : Below W.heap.size W W') => Below.trod laidOut (by kernel_rfl) (of_decide_eq_true (by kernel_rfl)) h1 hb hl1
  have kv := fun W' (hb : Below W.heap.size W W') => Below.trodVars laidOut hb (by kernel_rfl) hV
  obtain ⟨b, rfl, rfl, rfl⟩ := open_bool Tryz.underlying4 (hval 0 4 v0 rfl rfl) h0
  obtain ⟨g1, g2, g3, g4, g5, rfl⟩ : ∃ g1 g2 g3 g4 g5, gs = [g1, g2, g3, g4, g5] := five (trodVars_len hV)
  have done : ∀ (e : Ending) W', e = .returned (.bool true) → Below W.heap.size W W' → ∃ v, e = .returned v ∧ Rows.fnAsInt32Spec.post enc Tryz.prog Tryz.f3 false true false false W #[.bool b, v1] v W' := by
    intro e W' he hb
    exact ⟨_, he, post_law (pa := [] ++ (p1 ++ [])) (pv := q) hW' (fun _ _ _ => trodAll_cons_mk (shut_bool Tryz.underlying4 _) trodAll_mk0) (trodAll_cons_mk (k0 W' hb) (trodAll_cons_mk (k1 W' hb) trodAll_mk0)) (kv W' hb) rfl hb⟩
  obtain ⟨a, len, cap, rfl⟩ := okWide_slice Tryz.underlying22 (hval 1 22 v1 rfl rfl)
  obtain ⟨fuel, hf⟩ := h1
  have hc1 : Tryz.prog.cellsOf 5 = 1 := by kernel_rfl
  rcases open_ints Tryz.underlying22 Tryz.underlying5 hc1 hf with ⟨hcs, hx⟩ | ⟨ad, len', cap', zs, hcs, _, hle, hmax, hall, hx, hcell, hwf⟩
  · simp [Value.cells] at hcs
    obtain ⟨rfl, rfl, rfl⟩ := hcs
    refine (law_asInt32 b 0 _ [] W Sl.nil (fun x hx => by cases hx)).mono fun e W' ⟨he, hb⟩ => done e W' he hb
  · simp [Value.cells] at hcs
    obtain ⟨rfl, rfl, rfl⟩ := hcs
    simp only [if_true] at hall
    have hs := sl_open (w := W) hle hmax hall hcell
    have hlen : (zs.take len).length = len := by rw [List.length_take]; omega
    refine (law_asInt32 b 0 _ (zs.take len) W hs (fun x hx => ?_)).mono fun e W' ⟨he, hb⟩ => done e W' he hb
    have := hwf x (List.mem_of_mem_take hx)
    have h0 : IntKind.u8.min = 0 := by decide
    have h1 : IntKind.u8.max = 255 := by decide
    simp [Lit.wf, h0, h1] at this
    omega

/-- A block's cells laid anew. -/
def setRow (cs : Array Value) : Obj → Obj
  | .cells _ t frozen => .cells cs t frozen
  | o => o
/-- A world for the witness: the settled one, the listed variables holding what their initialisers lay. -/
noncomputable def laidWorld (os : Os) : World :=
  { World.holding Tryz.prog os ⟨#[], #[], []⟩ with heap := (((((World.holding Tryz.prog os ⟨#[], #[], []⟩).heap.modify 3 (setRow #[.int .i64 40])).modify 2 (setRow #[.int .i64 40])).modify 4 (setRow #[.int .i64 12])).modify 5 (setRow #[.int .i64 80])).modify 1 (setRow #[.int .i64 10]) }
theorem laid_met (os : Os) : laidMet Tryz.prog Rows.fnAsInt32Row.laid ((laidWorld os).forCall (fun _ _ => 0) ⟨#[], #[.bool false, .slice none 0 0], []⟩).memory :=
  laidMet_of_run' 8 (by kernel_rfl) (by kernel_rfl)
theorem reads (os : Os) {H : Type} (enc : TypeId × Value → H) : ∃ gs places, DataW.whole enc Tryz.prog ((laidWorld os).forCall (fun _ _ => 0) ⟨#[], #[.bool false, .slice none 0 0], []⟩).memory Tryz.f3.params.toList Rows.fnAsInt32Spec.vars false #[Value.bool false, Value.slice none 0 0].toList 8 = some ([.lit (.bool false), .nil], gs, places) := by
  have h : (DataW.whole enc Tryz.prog ((laidWorld os).forCall (fun _ _ => 0) ⟨#[], #[.bool false, .slice none 0 0], []⟩).memory Tryz.f3.params.toList Rows.fnAsInt32Spec.vars false #[Value.bool false, Value.slice none 0 0].toList 8).map (fun x => x.1) = some [.lit (.bool false), .nil] := by kernel_rfl
  obtain ⟨⟨a, g, p⟩, h1, h2⟩ := Option.map_eq_some_iff.1 h
  obtain rfl : a = _ := h2
  exact ⟨g, p, h1⟩

set_option maxRecDepth 100000 in
theorem lifted (os : Os) (started : os.Started) (H : Type) (enc : TypeId × Value → H) (F : Stop.Interp) :
    ReturnsInHanded {} Tryz.checked os 3 .any ((OpenSpec.ofChange Rows.fnAsInt32Spec).preRow enc Tryz.prog Tryz.f3 Rows.fnAsInt32Row.domain false Rows.fnAsInt32Row.laid) (((OpenSpec.ofChange Rows.fnAsInt32Spec).at F).post enc Tryz.prog Tryz.f3 false true false false) := by
  obtain ⟨gs, places, hx⟩ := reads os enc
  refine returnsInHanded_of_row (C := Tryz.checked) (s := OpenSpec.ofChange Rows.fnAsInt32Spec) own started (by kernel_rfl) Tryz.func3
    (witness_row_at (enc := enc) (C := Tryz.checked) false (laidWorld os) #[.bool false, .slice none 0 0] rfl (by kernel_rfl) (by kernel_rfl) (by kernel_rfl)
      (OpenSpec.preRow_of_cond 8 hx (by kernel_rfl) (fun k hk => by cases hk) (by kernel_rfl) (laid_met os))) ?_
  intro W base args ds gs before hval hW _ _ _ hL _ _
  exact contract H enc W base args ds gs before hval hW

theorem said : Rows.FnAsInt32Said :=
  OpenClaim.holds_of_cond 3 Tryz.f3 rfl rfl rfl rfl rfl rfl rfl ⟨rfl, rfl, rfl, rfl, rfl⟩ rfl rfl rfl rfl rfl (by kernel_rfl) Tryz.func3 (by kernel_rfl)
    (of_decide_eq_true (by kernel_rfl)) (by unfold Func.isWrapper; first | (rw [if_pos (by decide +kernel)]; kernel_rfl) | (rw [if_neg (by decide +kernel)]; exact ⟨rfl, rfl⟩))
    (fun os started H enc _ F => by rw [OpenClaim.pre_eq_preRow]; exact lifted os started H enc F)

/-- No parameter wants a stand-in; the program's own looks are off: what the card asks. -/
theorem plain (f : FuncId) (fn : Func) (hf : Tryz.pinned.checked.prog.funcNamed Rows.fnAsInt32Row.func = some f) (hfn : Tryz.pinned.checked.prog.funcs[f]? = some fn) :
    true = Tryz.pinned.checked.prog.looks [] ∧ ∀ (j : Nat) t, fn.params[j]? = some t → Tryz.pinned.checked.prog.wantsStandIn t = false := by
  obtain rfl : f = 3 := Option.some.inj ((show Tryz.prog.funcNamed Rows.fnAsInt32Row.func = some 3 by kernel_rfl).symm.trans hf) |>.symm
  obtain rfl : fn = Tryz.f3 := (Option.some.inj (Tryz.func3.symm.trans hfn)).symm
  refine ⟨by kernel_rfl, fun j t ht => ?_⟩
  rw [Tryz.params3] at ht
  have hm : t ∈ (#[4, 22] : Array TypeId) := Array.mem_of_getElem? ht
  simp at hm
  rcases hm with rfl | rfl
  · exact (show Tryz.prog.wantsStandIn 4 = false by kernel_rfl)
  · exact (show Tryz.prog.wantsStandIn 22 = false by kernel_rfl)

/-- The card. -/
theorem card : Rows.FnAsInt32CardSaid :=
  Claim7.holds_tied_plain_at .later [] _ _ _ _ said (fun _ h => by cases h) (by kernel_rfl) (fun _ h => by cases h) fnAsInt32_row_tie rfl ⟨rfl, rfl⟩ (by kernel_rfl) rfl plain (by kernel_rfl)
#print axioms card
end Go.Proofs.YtkkmnglnnfmnaaaGreatDoor.fnAsInt32
