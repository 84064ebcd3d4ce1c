/- starlark's isSmall, makeSmallInt, makeBigInt, MakeBigInt; bigall's nat.set, Int.Set. -/
import Derived.Test.YtkkmnglnnfmnaaaGreatDoorInt2
import Derived.Laws.IdiomCopy
import Derived.Lib.LazyBuf
import Derived.Deep.RegionWith
import Derived.LaidEqlPtr
namespace Go.Proofs.YtkkmnglnnfmnaaaGreatDoor
open Go.RowKit Go.Proofs.YtkkmnglnnfmnaaaGreatDoorW.PrintWords Go.Proofs.YtkkmnglnnfmnaaaGreatDoorW.PrintLast Go.Proofs.YtkkmnglnnfmnaaaGreatDoorW.PrintMore
set_option linter.unusedVariables false
set_option linter.unusedSimpArgs false

/-- The number of a sign and words. -/
def bval (neg : Bool) (zs : List Int) : Int := if neg then - leN zs else leN zs
/-- Is it an int32? -/
def sml (x : Int) : Bool := decide (-2147483648 ≤ x ∧ x ≤ 2147483647)
theorem i64Of_bval (neg : Bool) (zs : List Int) (hw : Words zs) (ht : Top zs) (h : leN zs < 4294967296) : i64Of neg (lowW zs) = bval neg zs := by
  have h0 := (leN_bd zs hw).1
  rw [lowW_small zs hw ht (by omega)]
  unfold i64Of bval wrap64
  cases neg <;> simp <;> omega

set_option maxRecDepth 100000 in
theorem isSmall_c (g : Nat) (neg : Bool) (v : Value) (zs : List Int) (w : World) (h : BI w g neg v zs) (hlen : zs.length ≤ 4398046511104) :
    Calls Tryz.prog 37 #[.pointer (some ⟨g, 0, none⟩)] w fun e w' => e = .returned (.bool (sml (bval neg zs))) ∧ w' = w := by
  have h0 := (leN_bd zs h.words).1
  have HB := Lib.hid (intBitLen_c g neg v zs w h hlen)
  have HI := Lib.hid (intInt64_c g neg v zs w h)
  have HV := Lib.hid (i64Of_bval neg zs h.words h.top)
  clear h
  obtain ⟨y, hy⟩ : ∃ y, i64Of neg (lowW zs) = y := ⟨_, rfl⟩
  rw [hy] at HI HV
  clear hy
  have e1 : leN zs < 2147483648 → sml (bval neg zs) = true := fun h => by unfold sml bval; cases neg <;> simp <;> omega
  have e2 : 4294967296 ≤ leN zs → sml (bval neg zs) = false := fun h => by unfold sml bval; cases neg <;> simp <;> omega
  have e3 : 2147483648 ≤ leN zs → leN zs < 4294967296 → sml (bval neg zs) = (y == -2147483648) := fun h h2 => by
    rw [HV.out h2]
    unfold sml bval
    cases neg
    · have h3 : (leN zs == -2147483648) = false := by simp; omega
      simp [h3]; omega
    · simp
      by_cases e : leN zs = 2147483648
      · simp [e]
      · have : ¬ leN zs ≤ 2147483648 := by omega
        have h3 : (-leN zs == -2147483648) = false := by simp; omega
        simp [h3]; omega
  have E1 := Lib.hid e1
  have E2 := Lib.hid e2
  have E3 := Lib.hid e3
  clear e1 e2 e3 h0
  by_cases c1 : leN zs < 2147483648
  · go_enter Tryz.func37, Tryz.ntmps37
    go_wp2_with (go_at_call 50; refine HB.out.mono ?_; rintro e w1 ⟨n, rfl, hn, rfl⟩; have hn1 : (n : Int) < 32 := by have := hn.small.2 c1; omega)
    go_ret
    exact ⟨by rw [E1.out c1]; rfl, rfl⟩
  · by_cases c2 : leN zs < 4294967296
    · go_enter Tryz.func37, Tryz.ntmps37
      go_wp2_with (first | (go_at_call 50; refine HB.out.mono ?_; rintro e w1 ⟨n, rfl, hn, rfl⟩; obtain rfl : n = 32 := hn.just.2 ⟨by omega, c2⟩) | (go_at_call 39; refine HI.out.mono ?_; rintro e w1 ⟨rfl, rfl⟩))
      go_ret
      exact ⟨by rw [E3.out (by omega) c2]; rfl, rfl⟩
    · go_enter Tryz.func37, Tryz.ntmps37
      go_wp2_with (go_at_call 50; refine HB.out.mono ?_; rintro e w1 ⟨n, rfl, hn, rfl⟩; have hn1 : ¬ (n : Int) < 32 := (by have := hn.small.1; omega); have hn2 : ((n : Int) == 32) = false := (by have := hn.just.1; simp; omega))
      go_ret
      exact ⟨(by rw [E2.out (by omega)]; show Ending.returned (.bool (decide ((n : Int) < 32))) = _; rw [decide_eq_false (by omega)]), rfl⟩

set_option maxRecDepth 100000 in
theorem makeSmall_c (x : Int) (w : World) :
    Calls Tryz.prog 38 #[.int .i64 x] w fun e w' => e = .returned (.agg #[.int .i64 x, .pointer none]) ∧ Below w.heap.size w w' := by
  go_enter Tryz.func38, Tryz.ntmps38
  go_wp2
  refine bodyPost_ret (v := .agg #[.int .i64 x, .pointer none]) (by simp [results, Tryz.results38, go_sem]) rfl ⟨rfl, ?_⟩
  exact (Below.refl _ w).alloc (Nat.le_refl _) _
set_option maxRecDepth 100000 in
theorem makeBig_c (a : Addr) (w : World) :
    Calls Tryz.prog 40 #[.pointer (some a)] w fun e w' => e = .returned (.agg #[.int .i64 0, .pointer (some a)]) ∧ Below w.heap.size w w' := by
  go_enter Tryz.func40, Tryz.ntmps40
  go_wp2
  refine bodyPost_ret (v := .agg #[.int .i64 0, .pointer (some a)]) (by simp [results, Tryz.results40, go_sem]) rfl ⟨rfl, ?_⟩
  exact (Below.refl _ w).alloc (Nat.le_refl _) _

theorem irow_setCells {k : IntKind} {w : World} {b : Nat} {l0 l : List Int} (h : IRow k w b l0) (hl : l0.length = l.length) : IRow k (w.setCells b 0 (l.map (Value.int k))) b l := by
  refine ⟨fun j hj => ?_, fun j hj => ?_⟩
  · have := World.cell?_setCells_in b (l.map (Value.int k)) 0 w (fun j hj => by
      have hj' : j < l0.length := by simpa [hl] using hj
      rw [Nat.zero_add, h.1 j hj']; rfl) j (by simpa using hj)
    simpa using this
  · rw [World.frozen?_setCells]
    exact h.2 j (by omega)

theorem size_setCells (b : Nat) : ∀ (vs : List Value) (o : Nat) (w : World), (w.setCells b o vs).heap.size = w.heap.size := by
  intro vs
  induction vs with
  | nil => intro o w; rfl
  | cons v r ih => intro o w; simp only [World.setCells]; rw [ih]; simp [World.setCell]
theorem addr_add (b o j : Nat) : (⟨b, o, none⟩ : Addr).add j = ⟨b, o + j, none⟩ := by
  unfold Addr.add
  split
  · simp_all
  · rfl
theorem wordSize : (Tryz.prog.info? 127).map (·.size) = some 1 := by
  obtain ⟨i, hi, hzz⟩ := Option.map_eq_some_iff.1 wordInfo
  simp only [Prod.mk.injEq] at hzz
  rw [hi]; simp [hzz.2.1]
/-- The copy of a row of words into a new one. -/
theorem copy_fresh (w : World) (g b o c c1 : Nat) (zs l0 : List Int) (h0 : l0.length = zs.length) (hr : IRow .u64 w g l0) (hc : ∀ j (h : j < zs.length), w.cell? ⟨b, o + j, none⟩ = some (.int .u64 zs[j])) :
    ∃ w2, (∀ ty : TypeId, (Builtin.copy_ #[108, 108] ty #[.slice (some ⟨g, 0, none⟩) zs.length c1, .slice (some ⟨b, o, none⟩) zs.length c]).run Tryz.prog w = .ok (.int .i64 zs.length) w2) ∧
      IRow .u64 w2 g zs ∧ (∀ B W, B ≤ g → Below B W w → Below B W w2) ∧ w2.heap.size = w.heap.size := by
  obtain ⟨i, hi, hzz⟩ := Option.map_eq_some_iff.1 wordInfo
  simp only [Prod.mk.injEq] at hzz
  have hs1 : (Tryz.prog.info? 127).map (·.size) = some 1 := by rw [hi]; simp [hzz.2.1]
  refine ⟨w.setCells g 0 (zs.map (Value.int .u64)), fun ty => ?_, irow_setCells hr h0, fun B W hB hb => below_setCells hB _ _ _ hb, size_setCells _ _ _ _⟩
  have := run_copy_cells (P := Tryz.prog) w 108 108 ty 127 g 0 zs.length c1 ⟨b, o, none⟩ zs.length c (zs.map (Value.int .u64)) Tryz.underlying108 hs1 (by simp) ?_ ?_ ?_ ?_
  · simpa [goInt] using this
  · intro j v hv
    obtain ⟨hj, rfl⟩ := List.getElem?_eq_some_iff.1 hv
    have hj' : j < zs.length := by simpa using hj
    rw [List.getElem_map, addr_add, hc j hj']
  · intro j hj
    have hj' : j < zs.length := by simpa using hj
    rw [Nat.zero_add, hr.1 j (by omega)]; rfl
  · intro j hj
    rw [Nat.zero_add]; exact hr.2 j (by have : j < zs.length := by simpa using hj
                                        omega)
  · intro v hv
    obtain ⟨x, _, rfl⟩ := List.mem_map.1 hv; rfl

set_option maxRecDepth 100000 in
/-- nat.set of a row, onto nil: a new row. -/
theorem natSet_c (B : Nat) (v : Value) (zs : List Int) (w : World) (h : Sl .u64 B w v zs) (hlen : zs.length ≤ 4398046511104) :
    Calls Tryz.prog 49 #[.slice none 0 0, v] w fun e w' => ∃ u, e = .returned u ∧ Sl .u64 w.heap.size w' u zs ∧ Below w.heap.size w w' := by
  by_cases hne : zs = []
  · have hs1 := wordSize
    subst hne
    obtain ⟨A, c, rfl, h1, h2, h3⟩ := h
    have hcp := fun (w : World) (ty : TypeId) => run_copy_none (P := Tryz.prog) w 108 108 ty 127 none A 0 0 0 c Tryz.underlying108 hs1 rfl
    go_enter Tryz.func49, Tryz.ntmps49
    go_wp2_with (go_at_call 46; refine (make_nil0 _).mono ?_; rintro e w1 ⟨rfl, rfl⟩)
    go_ret
    exact ⟨_, rfl, Sl.nil, Below.refl _ _⟩
  · have hpos : 0 < zs.length := List.length_pos_iff.2 hne
    obtain ⟨A, c, rfl, h1, h2, h3⟩ := h
    obtain ⟨b, o, rfl, hB, hlt, hc⟩ := h3 hne
    have HC := Lib.hid hc
    clear hc h3 h2
    go_enter Tryz.func49, Tryz.ntmps49
    go_wp2_with (go_at_call 46; refine (make_nil zs.length _ hpos hlen).mono ?_; rintro e w1 ⟨c1, rfl, hc1, hc2, hr1, hb1, hsz1⟩; obtain ⟨w2, hcp, hr2, hb2, hz2⟩ := copy_fresh w1 w.heap.size b o c c1 zs _ (by simp) hr1 (fun j hj => (hb1.cell (p := ⟨b, o + j, none⟩) hlt).trans (HC.out j hj)); have HR := Lib.hid hr2; have HB := Lib.hid (hb2 _ _ (Nat.le_refl _) hb1); have HZ := Lib.hid (And.intro hsz1 hz2); clear hr1 hb1 hr2 hb2 hsz1 hz2)
    go_ret
    exact ⟨_, rfl, HR.out.sl' (by have := HZ.out; omega) hc1 (by omega), HB.out⟩

theorem run_neq_ptr_other {P : Program} (w : World) {tp te : TypeId} {j : TypeInfo} {a b : Addr} {ca cb : Array Value} {ta tb : TypeId} (hp : P.underlying tp = some (.pointer te)) (hte : P.info? te = some j) (hsz : j.size ≠ 0)
    (hne : a ≠ b) (ha : w.heap[a.block]? = some (.cells ca ta (0, 0))) (hb : w.heap[b.block]? = some (.cells cb tb (0, 0))) :
    (binOp .neq tp (.pointer (some a)) (.pointer (some b))).run P w = .ok (.bool true) w := by
  have h : ∀ d : Nat, (Op.equalIn (d + 1) tp (.pointer (some a)) (.pointer (some b))).run P w = .ok false w := fun d => by
    simp [Op.equalIn, run_underlying hp, sizeOf, typeInfo, hte, hsz, run_sameAddr_other w hne ha hb]
  simp only [binOp]
  simp [Op.equal, Op.maxDepth, h 9999]
theorem ptr_other (w : World) (g g2 : Nat) (h : g ≠ g2) {ca cb : Array Value} {ta tb : TypeId} (ha : w.heap[g]? = some (.cells ca ta (0, 0))) (hb : w.heap[g2]? = some (.cells cb tb (0, 0))) : (binOp .neq 65 (.pointer (some ⟨g, 0, none⟩)) (.pointer (some ⟨g2, 0, none⟩))).run Tryz.prog w = .ok (.bool true) w := by
  obtain ⟨i, hi, hs⟩ := Option.map_eq_some_iff.1 intInfo
  exact run_neq_ptr_other w Tryz.underlying65 hi (by rw [hs]; decide) (by intro e; injection e with e; exact h e) ha hb
set_option maxRecDepth 100000 in
/-- z.Set(x), z new and not x. -/
theorem intSet_c (g g2 : Nat) (neg n0 : Bool) (v : Value) (zs : List Int) (w : World) (h : BI w g neg v zs) (hne : g2 ≠ g) (hlen : zs.length ≤ 4398046511104)
    (hk : w.heap[g2]? = some (.cells #[.bool n0, .slice none 0 0] 110 (0, 0))) :
    Calls Tryz.prog 36 #[.pointer (some ⟨g2, 0, none⟩), .pointer (some ⟨g, 0, none⟩)] w fun e w' => e = .returned (.pointer (some ⟨g2, 0, none⟩)) ∧ (∃ u, BI w' g2 neg u zs) ∧ Below g2 w w' := by
  have hpe := ptr_other w g2 g hne hk h.blk
  have d0 := blk_cell hk 0 _ rfl
  have d1 := blk_cell hk 1 _ rfl
  have g0 := blk_free hk 0
  have g1 := blk_free hk 1
  have hlt2 : g2 < w.heap.size := lt_of_cell d0
  have HK := Lib.hid hk
  clear hk
  have c0 := h.c0
  have c1 := h.c1
  have hlt := h.lt
  have HC := Lib.hid (fun w' (hb : Below w.heap.size w w') => natSet_c _ v zs w' (h.sl.below hb) hlen)
  have HW := Lib.hid (And.intro h.words h.top)
  obtain ⟨A, c, rfl, _⟩ := h.sl.c
  clear h
  have HB0 : Hid (Below w.heap.size w w) := Below.refl _ _
  go_enter Tryz.func36, Tryz.ntmps36
  go_wp2
  go_region_with (go_at_call 49; refine (HC.out _ (by first | exact HB0.out | exact HB0.out.drew)).mono ?_; rintro e w1 ⟨u, rfl, hs1, hb1⟩; obtain ⟨A1, k1, rfl, _⟩ := hs1.c; have HS1 := Lib.hid hs1; replace HB0 : Hid (Below w.heap.size w w1) := (by first | exact HB0.out.trans hb1 | exact HB0.out.drew.trans hb1); clear hs1 hb1; have q0 := (HB0.out.cell (p := ⟨g2, 0, none⟩) hlt2).trans d0; have q1 := (HB0.out.cell (p := ⟨g2, 1, none⟩) hlt2).trans d1; have r0 := (HB0.out.frozen (p := ⟨g2, 0, none⟩) hlt2).trans g0; have r1 := (HB0.out.frozen (p := ⟨g2, 1, none⟩) hlt2).trans g1; have p0 := (HB0.out.cell (p := ⟨g, 0, none⟩) hlt).trans c0; have p1 := (HB0.out.cell (p := ⟨g, 1, none⟩) hlt).trans c1)
  all_goals go_wp2
  all_goals go_ret
  all_goals exact ⟨rfl, ⟨_, bi_set2 (blk_below HK.out HB0.out) (HS1.out.mono (by first | exact hlt2 | (simp; exact hlt2))) HW.out.1 HW.out.2⟩, ((HB0.out.mono (Nat.le_of_lt hlt2)).setCell (Nat.le_refl _) _).setCell (Nat.le_refl _) _⟩
end Go.Proofs.YtkkmnglnnfmnaaaGreatDoor
