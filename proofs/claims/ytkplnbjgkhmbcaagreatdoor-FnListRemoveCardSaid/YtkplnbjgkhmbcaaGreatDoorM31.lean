/- starlark: list_remove. · starlark: zzOn, ZzRemoveOf. -/
import Derived.Test.YtkplnbjgkhmbcaaGreatDoorM30
import Derived.Deep.RegionLaw
import Derived.Deep.DeepCutAuto
import Derived.Laws.IdiomCopy
import Derived.Deep.Upon
import Derived.OwnWalk
namespace Go.Proofs.YtkplnbjgkhmbcaaGreatDoor
open Go.RowKit Go.Shelf Go.Proofs.YtkplnbjgkhmbcaaGreatDoorW.PrintWords Go.Proofs.YtkplnbjgkhmbcaaGreatDoorW.PrintLast Go.Proofs.YtkplnbjgkhmbcaaGreatDoorW.PrintMore
set_option linter.unusedVariables false
set_option linter.unusedSimpArgs false

/-- A list of values: its struct at block g, its row at block A. -/
structure EL (w : World) (g A c : Nat) (vs : List Value) : Prop where
  lt : LT w g (.slice (some ⟨A, 0, none⟩) vs.length c)
  cl : ∀ j (h : j < vs.length), w.cell? ⟨A, j, none⟩ = some vs[j]
  fr : ∀ j, j < vs.length → w.frozen? ⟨A, j, none⟩ = false
theorem EL.drew {w : World} {g A c : Nat} {vs : List Value} (h : EL w g A c vs) : EL w.drew g A c vs := ⟨h.lt, h.cl, h.fr⟩
theorem EL.below {w w' : World} {g A c : Nat} {vs : List Value} (h : EL w g A c vs) (hb : Below w.heap.size w w') : EL w' g A c vs :=
  ⟨blk_below h.lt hb, fun j hj => (hb.cell (p := ⟨A, j, none⟩) (lt_of_cell (h.cl j hj))).trans (h.cl j hj), fun j hj => (hb.frozen (p := ⟨A, j, none⟩) (lt_of_cell (h.cl j hj))).trans (h.fr j hj)⟩
theorem valInfo : (Tryz.prog.info? 57).map (fun i => (i.zero, i.size, i.bytes)) = some (some .nilIface, 1, 16) := by kernel_rfl
theorem assertList (v : Value) (w : World) : (Instr.typeAssert (.iface 82 v) 57 82 false).run Tryz.prog w = .ok v w := by kernel_rfl

/-- The builtin list.remove, bound. -/
def BB (w : World) (b g : Nat) : Prop := ∃ n f, w.heap[b]? = some (.cells #[.string n, f, .iface 82 (.pointer (some ⟨g, 0, none⟩))] 282 (0, 0))

/-- All blocks below n but two. -/
def But2 (n A g : Nat) (w w' : World) : Prop := (∀ b, b < n → b ≠ A → b ≠ g → w'.heap[b]? = w.heap[b]?) ∧ Below 0 w w'
/-- What the deletion in place leaves. -/
theorem el_del {w : World} {g A c : Nat} {vs : List Value} (h : EL w g A c vs) (hgA : g ≠ A) (j : Nat) (hj : j < vs.length) :
    EL ((w.setCells A j (vs.drop (j + 1))).setCell ⟨g, 0, none⟩ (.slice (some ⟨A, 0, none⟩) (j + (vs.length - (j + 1))) c)) g A c (vs.eraseIdx j) ∧ But2 w.heap.size A g w ((w.setCells A j (vs.drop (j + 1))).setCell ⟨g, 0, none⟩ (.slice (some ⟨A, 0, none⟩) (j + (vs.length - (j + 1))) c)) := by
  have hlen : (vs.drop (j + 1)).length = vs.length - (j + 1) := by simp
  have hel : (vs.eraseIdx j).length = j + (vs.length - (j + 1)) := by rw [List.length_eraseIdx_of_lt hj]; omega
  have hge : g < w.heap.size := lt_blk h.lt
  have hlt0 := (World.heap_setCells_other w A j (vs.drop (j + 1)) hge hgA).trans h.lt
  have hsz : w.heap.size ≤ (w.setCells A j (vs.drop (j + 1))).heap.size := (by rw [size_setCells]; exact Nat.le_refl _)
  refine ⟨⟨?_, ?_, ?_⟩, ?_, ?_⟩
  · rw [hel]; exact blk_put hlt0 0 _ rfl
  · intro i hi
    rw [hel] at hi
    rw [World.cell?_setCell_far _ _ _ _ (by exact hgA)]
    by_cases hij : i < j
    · rw [World.cell?_setCells_out A _ _ _ _ (fun _ _ => Or.inl hij), h.cl i (by omega), List.getElem_eraseIdx_of_lt (h' := hij)]
    · have := World.cell?_setCells_in A (vs.drop (j + 1)) j w (fun l hl => by rw [hlen] at hl; rw [h.cl (j + l) (by omega)]; rfl) (i - j) (by rw [hlen]; omega)
      rw [show j + (i - j) = i by omega] at this
      rw [this]
      simp only [List.getElem_drop]
      rw [List.getElem_eraseIdx_of_ge (h' := by omega)]
      congr 2; omega
  · intro i hi
    rw [hel] at hi
    rw [World.frozen?_setCell, World.frozen?_setCells]
    exact h.fr i (by omega)
  · intro b hb h1 h2
    exact (Below.heap_setCell _ _ _ b h2).trans (World.heap_setCells_other w A j _ hb h1)
  · exact (below_setCells (Nat.zero_le _) _ _ _ (Below.refl 0 w)).setCell (p := ⟨g, 0, none⟩) (Nat.zero_le _) _

set_option maxRecDepth 100000 in
theorem listRemove_c (b g A c a ca : Nat) (vs : List Value) (v : Value) (T : TypeId) (q : Nat → Bool) (w : World) (hb : BB w b g) (hl : EL w g A c vs) (ha : w.cell? ⟨a, 0, none⟩ = some (.iface T v)) (hn : vs.length ≤ 1000000) (hcap : vs.length ≤ c ∧ c ≤ 4611686018427387904) (hgA : g ≠ A) (hv : ∀ j (h : j < vs.length), ∃ T x, vs[j] = .iface T x)
    (HE : Hid (∀ W, Below w.heap.size w W → ∀ j (h : j < vs.length), Calls Tryz.prog 121 #[vs[j], .iface T v] W fun e W' => e = .returned (.tuple #[.bool (q j), .nilIface]) ∧ Below W.heap.size W W')) :
    Calls Tryz.prog 82 #[.pointer none, .pointer (some ⟨b, 0, none⟩), .slice (some ⟨a, 0, none⟩) 1 ca, .slice none 0 0] w fun e w' =>
      ((∀ j, j < vs.length → q j = false) ∧ (∃ p, e = .returned (.tuple #[.nilIface, .iface 187 (.pointer (some p))])) ∧ Below w.heap.size w w') ∨ (∃ j, j < vs.length ∧ q j = true ∧ (∀ i, i < j → q i = false) ∧ e = .returned (.tuple #[.iface 137 (.int .u8 0), .nilIface]) ∧ EL w' g A c (vs.eraseIdx j) ∧ But2 w.heap.size A g w w') := by
  obtain ⟨n, f, hb⟩ := hb
  have hta := assertList
  have HR := Lib.hid (receiver_c b _ _ _ w hb)
  have HN := Lib.hid (fun w' (hB : Below w.heap.size w w') => bname_c b _ _ _ w' (blk_below hb hB))
  have HL := Lib.hid (fun w' (hB : Below w.heap.size w w') => hl.below hB)
  have hag : a < w.heap.size := lt_of_cell ha
  have hgl := lt_blk hl.lt
  have HU : Hid (∀ tid, Calls Tryz.prog 117 #[.string n, .slice (some ⟨a, 0, none⟩) 1 ca, .slice none 0 0, .int .i64 1, .slice (some ⟨w.heap.size + 1, 0, none⟩) 1 1] ((w.alloc (.cells #[.nilIface] 57)).alloc (.cells #[.iface 212 (.pointer (some ⟨w.heap.size, 0, none⟩))] tid)) fun e w' => e = .returned .nilIface ∧ Below w.heap.size w w' ∧ w'.cell? ⟨w.heap.size, 0, none⟩ = some (.iface T v)) := Lib.hid fun tid => by
    have hB : Below w.heap.size w ((w.alloc (.cells #[.nilIface] 57)).alloc (.cells #[.iface 212 (.pointer (some ⟨w.heap.size, 0, none⟩))] tid)) := ((Below.refl _ w).alloc (Nat.le_refl _) _).alloc (by simp) _
    have hk : ((w.alloc (.cells #[.nilIface] 57)).alloc (.cells #[.iface 212 (.pointer (some ⟨w.heap.size, 0, none⟩))] tid)).heap[w.heap.size]? = some (.cells #[.nilIface] 57 (0, 0)) := blk_alloc (blk_new _ _) _
    have hk2 : ((w.alloc (.cells #[.nilIface] 57)).alloc (.cells #[.iface 212 (.pointer (some ⟨w.heap.size, 0, none⟩))] tid)).heap[w.heap.size + 1]? = some (.cells #[.iface 212 (.pointer (some ⟨w.heap.size, 0, none⟩))] tid (0, 0)) := by simpa using blk_new (w.alloc (.cells #[.nilIface] 57)) (.cells #[.iface 212 (.pointer (some ⟨w.heap.size, 0, none⟩))] tid)
    refine (unpackPos_c n a (w.heap.size + 1) w.heap.size ca v .nilIface T _ ((hB.cell (p := ⟨a, 0, none⟩) hag).trans ha) (blk_cell hk2 0 _ rfl) (blk_cell hk 0 _ rfl) (blk_free hk 0)).mono ?_
    rintro e w' ⟨rfl, rfl⟩
    exact ⟨rfl, hB.setCell (p := ⟨w.heap.size, 0, none⟩) (Nat.le_refl _) _, blk_cell (blk_put hk 0 _ rfl) 0 _ rfl⟩
  have HB0 : Hid (∀ o, Below w.heap.size w (w.alloc o)) := fun o => (Below.refl _ w).alloc (Nat.le_refl _) o
  have HB1 : Hid (∀ o o2, Below w.heap.size w ((w.alloc o).alloc o2)) := fun o o2 => ((Below.refl _ w).alloc (Nat.le_refl _) o).alloc (by simp) _
  clear hb hl ha
  go_enter Tryz.func82, Tryz.ntmps82
  go_upto_region 3 with (go_at_call 116; (with_reducible refine HR.out.mono ?_); rintro e w1 ⟨rfl, hw1⟩; have hw2 := hw1.symm; clear hw1; subst hw2)
  go_upto_region 9 with (first
    | (go_at_call 118; (with_reducible refine (HN.out _ (HB0.out _)).mono ?_); rintro e w1 ⟨rfl, rfl⟩)
    | (go_at_call 117; (with_reducible refine (HU.out _).mono ?_); rintro e w2 ⟨rfl, hb2, hk2⟩; have HK := Lib.hid (And.intro hb2 hk2); clear hb2 hk2)
    | (go_at_call 119; (with_reducible refine (checkMutable_c g _ _ _ (HL.out _ HK.out.1).lt).mono ?_); rintro e w3 ⟨rfl, hw1⟩; have hw2 := hw1.symm; clear hw1; subst hw2))
  obtain ⟨hb2, hk2⟩ := HK.out
  have c0 := blk_cell (HL.out _ hb2).lt 0 _ rfl
  clear hk2
  go_wp2_with fail
  clear c0 hb2
  go_loopw [43] (fun i wr => ∃ j : Nat, j ≤ vs.length ∧ i = .int .i64 (j : Int) ∧ Hid (∀ l, l < j → q l = false) ∧ Hid (Below w.heap.size w wr ∧ wr.cell? ⟨w.heap.size, 0, none⟩ = some (.iface T v) ∧ w.heap.size < wr.heap.size)) (fun i _ => vs.length - (intOf i).toNat)
  case atStart => exact ⟨0, Nat.zero_le _, rfl, fun l h => absurd h (Nat.not_lt_zero _), HK.out.1, HK.out.2, lt_of_cell HK.out.2⟩
  case round =>
    obtain ⟨j, hj, rfl, HQ, HW⟩ := hrel
    by_cases hlt : j < vs.length
    · have hL := HL.out _ HW.out.1
      have cj := hL.cl j hlt
      obtain ⟨Tj, xj, hxj⟩ := hv j hlt
      have HEj : Hid (Calls Tryz.prog 121 #[.iface Tj xj, .iface T v] wr fun e W' => e = .returned (.tuple #[.bool (q j), .nilIface]) ∧ Below wr.heap.size wr W') := by
        have := HE.out wr HW.out.1 j hlt
        rw [hxj] at this
        exact Lib.hid this
      rw [hxj] at cj
      have ck := HW.out.2.1
      have HLT := Lib.hid hL
      clear hL hxj
      obtain ⟨qj, hqj⟩ : ∃ b, q j = b := ⟨_, rfl⟩
      rw [hqj] at HEj
      have HQJ := Lib.hid hqj
      clear hqj
      cases qj
      · go_wp2_with (go_at_call 121; (with_reducible refine HEj.out.mono ?_); rintro e w4 ⟨rfl, hb4⟩; have HB4 := Lib.hid hb4; clear hb4)
        go_roundw
        case rel => exact ⟨j + 1, by omega, by go_num, fun l hl => by rcases Nat.lt_succ_iff_lt_or_eq.1 hl with h | h; exact HQ.out l h; rw [h]; exact HQJ.out, HW.out.1.trans (HB4.out.mono HW.out.1.size), (HB4.out.cell (p := ⟨w.heap.size, 0, none⟩) HW.out.2.2).trans HW.out.2.1, Nat.lt_of_lt_of_le HW.out.2.2 HB4.out.size⟩
        case measure => simp [intOf]; omega
      · go_upto_region 16 with (go_at_call 121; (with_reducible refine HEj.out.mono ?_); rintro e w4 ⟨rfl, hb4⟩; have HB4 := Lib.hid hb4; clear hb4)
        have HB5 : Hid (Below w.heap.size w w4) := Lib.hid (HW.out.1.trans (HB4.out.mono HW.out.1.size))
        have hE := HL.out _ HB5.out
        have HD := Lib.hid (el_del hE.drew hgA j hlt)
        have c0 := blk_cell hE.lt 0 _ rfl
        have f0 := blk_free hE.lt 0
        obtain ⟨i0, hi0, hz0, hz1, hz2⟩ := info_parts valInfo
        obtain ⟨Q, hQ, hnews⟩ : ∃ Q : Addr, (if c = j + 1 then some (⟨A, 0, none⟩ : Addr) else some ⟨A, j + 1, none⟩) = some Q ∧ Hid (∀ l u, (vs.drop (j + 1))[l]? = some u → w4.drew.cell? (Q.add l) = some u) := by
          by_cases h : c = j + 1
          · refine ⟨⟨A, 0, none⟩, by simp [h], fun l u hu => ?_⟩
            have h0 : (vs.drop (j + 1)).length = 0 := by simp; omega
            rw [List.length_eq_zero_iff.1 h0] at hu
            simp at hu
          · refine ⟨⟨A, j + 1, none⟩, by simp [h], fun l u hu => ?_⟩
            rw [List.getElem?_drop] at hu
            obtain ⟨hlt2, hu⟩ := List.getElem?_eq_some_iff.1 hu
            rw [Addr.add_lit, ← hu]
            exact hE.cl _ hlt2
        have s1 : Hid ((vs.drop (j + 1)).length = (vs.length - (j + 1)) * 1) := by rw [Nat.mul_one]; exact List.length_drop
        have s2 : Hid (∀ u ∈ vs.drop (j + 1), u.oneCell' = true) := by
          intro u hu
          obtain ⟨l, hl, rfl⟩ := List.getElem_of_mem (List.mem_of_mem_drop hu)
          obtain ⟨T2, x2, hx2⟩ := hv l hl
          rw [hx2]; rfl
        have s3 : Hid (∀ l, l < (vs.drop (j + 1)).length → (w4.drew.cell? ⟨A, 0 + j * 1 + l, none⟩).isSome = true ∧ w4.drew.frozen? ⟨A, 0 + j * 1 + l, none⟩ = false) := by
          intro l hl
          rw [List.length_drop] at hl
          rw [Nat.mul_one, Nat.zero_add]
          exact ⟨by show (w4.cell? _).isSome = true; rw [hE.cl (j + l) (by omega)]; rfl, hE.fr (j + l) (by omega)⟩
        have hic : j ≤ c := by omega
        have hwr : IntKind.i64.wrap ((j : Int) + 1) = (j : Int) + 1 := by rw [IntKind.wrap_i64]; omega
        have hp0 : (0 : Int) ≤ (j : Int) + 1 := by omega
        have hp1 : (j : Int) + 1 ≤ (vs.length : Int) := by omega
        have hp2 : ((j : Int) + 1).toNat = j + 1 := by omega
        have c0' : (w4.drew.setCells A j (vs.drop (j + 1))).cell? ⟨g, 0, none⟩ = some (.slice (some ⟨A, 0, none⟩) vs.length c) := by
          rw [World.cell?_setCells_out A _ _ _ _ (fun e _ => absurd e hgA)]; exact c0
        have f0' : (w4.drew.setCells A j (vs.drop (j + 1))).frozen? ⟨g, 0, none⟩ = false := by
          rw [World.frozen?_setCells]; exact f0
        have HC := Lib.hid hcap
        clear hE ck cj hcap
        go_region_law (refine step_append_room rfl (.tmp 64) (.tmp 71) 94 rfl 57 i0 1 Tryz.underlying94 hi0 hz1 A 0 j c (by simp [Act.eval, Act.put]) Q (vs.length - (j + 1)) (c - (j + 1)) (vs.drop (j + 1)) (by simp [Act.eval, Act.put]) s1.out hnews.out s2.out (by have := HC.out; omega) s3.out ?_)
        all_goals go_wp2
        all_goals go_ret2
        all_goals
          refine Or.inr ⟨j, hlt, HQJ.out, HQ.out, rfl, ?_⟩
          have hd := HD.out
          exact ⟨hd.1, fun b hb h1 h2 => (hd.2.1 b (Nat.lt_of_lt_of_le hb HB5.out.size) h1 h2).trans (HB5.out.block b hb), ((HB5.out.mono (Nat.zero_le _)).drew).trans hd.2.2⟩
    · have hje : j = vs.length := by omega
      subst hje
      go_wp2_with (go_at_call 59; (with_reducible refine (errNew_c _ _).mono ?_); rintro e w5 ⟨p5, rfl, hb5⟩; have HB5 := Lib.hid hb5; clear hb5)
      go_ret2
      exact Or.inl ⟨HQ.out, ⟨_, rfl⟩, HW.out.1.trans (HB5.out.mono HW.out.1.size)⟩
end Go.Proofs.YtkplnbjgkhmbcaaGreatDoor

namespace Go.Proofs.YtkplnbjgkhmbcaaGreatDoor
open Go.RowKit Go.Shelf Go.Proofs.YtkplnbjgkhmbcaaGreatDoorW.PrintWords Go.Proofs.YtkplnbjgkhmbcaaGreatDoorW.PrintLast Go.Proofs.YtkplnbjgkhmbcaaGreatDoorW.PrintMore
set_option linter.unusedVariables false
set_option linter.unusedSimpArgs false

/-- What the removal answers. -/
def RemP (w : World) (g A c : Nat) (vs : List Value) (q : Nat → Bool) (e : Ending) (w' : World) : Prop :=
  ((∀ j, j < vs.length → q j = false) ∧ (∃ p, e = .returned (.tuple #[.nilIface, .iface 187 (.pointer (some p))])) ∧ Below w.heap.size w w') ∨ (∃ j, j < vs.length ∧ q j = true ∧ (∀ i, i < j → q i = false) ∧ e = .returned (.tuple #[.iface 137 (.int .u8 0), .nilIface]) ∧ EL w' g A c (vs.eraseIdx j) ∧ But2 w.heap.size A g w w')
theorem RemP.back {w W : World} {g A c : Nat} {vs : List Value} {q : Nat → Bool} {e : Ending} {w' : World} (hb : Below w.heap.size w W) (h : RemP W g A c vs q e w') : RemP w g A c vs q e w' := by
  rcases h with ⟨h1, h2, h3⟩ | ⟨j, h1, h2, h3, h4, h5, h6⟩
  · exact Or.inl ⟨h1, h2, hb.trans (h3.mono hb.size)⟩
  · exact Or.inr ⟨j, h1, h2, h3, h4, h5, fun b hlt k1 k2 => (h6.1 b (Nat.lt_of_lt_of_le hlt hb.size) k1 k2).trans (hb.block b hlt), (hb.mono (Nat.zero_le _)).trans h6.2⟩
theorem RemP.pair {w : World} {g A c : Nat} {vs : List Value} {q : Nat → Bool} {e : Ending} {w' : World} (h : RemP w g A c vs q e w') : ∃ a b, e = .returned (.tuple #[a, b]) := by
  rcases h with ⟨_, ⟨p, h2⟩, _⟩ | ⟨j, _, _, _, h4, _⟩
  · exact ⟨_, _, h2⟩
  · exact ⟨_, _, h4⟩

set_option maxRecDepth 100000 in
theorem zzOn_c (n : ByteArray) (g A c a ca : Nat) (vs : List Value) (v : Value) (T : TypeId) (q : Nat → Bool) (w : World) (hl : EL w g A c vs) (ha : w.cell? ⟨a, 0, none⟩ = some (.iface T v)) (hn : vs.length ≤ 1000000) (hcap : vs.length ≤ c ∧ c ≤ 4611686018427387904) (hgA : g ≠ A) (hv : ∀ j (h : j < vs.length), ∃ T x, vs[j] = .iface T x)
    (HE : Hid (∀ W, Below w.heap.size w W → ∀ j (h : j < vs.length), Calls Tryz.prog 121 #[vs[j], .iface T v] W fun e W' => e = .returned (.tuple #[.bool (q j), .nilIface]) ∧ Below W.heap.size W W')) :
    Calls Tryz.prog 81 #[.string n, .func (.func 82) #[] #[], .pointer (some ⟨g, 0, none⟩), .slice (some ⟨a, 0, none⟩) 1 ca] w (RemP w g A c vs q) := by
  have hag : a < w.heap.size := lt_of_cell ha
  have HR : Hid (∀ W b, Below w.heap.size w W → BB W b g → Calls Tryz.prog 82 #[.pointer none, .pointer (some ⟨b, 0, none⟩), .slice (some ⟨a, 0, none⟩) 1 ca, .slice none 0 0] W (RemP w g A c vs q)) := Lib.hid fun W b hB hb =>
    (listRemove_c b g A c a ca vs v T q W hb (hl.below hB) ((hB.cell (p := ⟨a, 0, none⟩) hag).trans ha) hn hcap hgA hv (Lib.hid fun W2 h2 => HE.out W2 (hB.trans (h2.mono hB.size)))).mono fun e w' h => RemP.back hB h
  have HK : Hid ((w.alloc (.cells #[.string n, .func (.func 82) #[] #[], .nilIface] 282)).heap[w.heap.size]? = some (.cells #[.string n, .func (.func 82) #[] #[], .nilIface] 282 (0, 0)) ∧ Below w.heap.size w (w.alloc (.cells #[.string n, .func (.func 82) #[] #[], .nilIface] 282))) := Lib.hid ⟨blk_new _ _, (Below.refl _ w).alloc (Nat.le_refl _) _⟩
  clear hl ha hv HE hcap hgA hn
  go_enter Tryz.func81, Tryz.ntmps81
  go_wp2_with (first
    | (go_at_call 114; (with_reducible refine (newBuiltin_c _ _ _).mono ?_); rintro e w1 ⟨rfl, hw1⟩; rw [← hw1] at HK; clear hw1)
    | (go_at_call 115; (with_reducible refine (bindReceiver_c _ _ _ _ _ _ HK.out.1).mono ?_); rintro e w2 ⟨rfl, hb2, hk2⟩; have HB2 := Lib.hid (And.intro (HK.out.2.trans (hb2.mono HK.out.2.size)) (show BB w2 _ g from ⟨_, _, hk2⟩)); clear hb2 hk2)
    | (go_at_call 82; (with_reducible refine (HR.out _ _ HB2.out.1 HB2.out.2).mono ?_); intro e w3 h3; obtain ⟨ra, rb, he⟩ := h3.pair; subst he; have HP := Lib.hid h3; clear h3))
  go_ret2
  exact HP.out

set_option maxRecDepth 100000 in
theorem zzRemoveOf_c (g A c a ca : Nat) (vs : List Value) (v : Value) (T : TypeId) (q : Nat → Bool) (w : World) (hl : EL w g A c vs) (ha : w.cell? ⟨a, 0, none⟩ = some (.iface T v)) (hn : vs.length ≤ 1000000) (hcap : vs.length ≤ c ∧ c ≤ 4611686018427387904) (hgA : g ≠ A) (hv : ∀ j (h : j < vs.length), ∃ T x, vs[j] = .iface T x)
    (HE : Hid (∀ W, Below w.heap.size w W → ∀ j (h : j < vs.length), Calls Tryz.prog 121 #[vs[j], .iface T v] W fun e W' => e = .returned (.tuple #[.bool (q j), .nilIface]) ∧ Below W.heap.size W W')) :
    Calls Tryz.prog 48 #[.pointer (some ⟨g, 0, none⟩), .slice (some ⟨a, 0, none⟩) 1 ca] w (RemP w g A c vs q) := by
  have HZ := Lib.hid (fun n => zzOn_c n g A c a ca vs v T q w hl ha hn hcap hgA hv HE)
  clear hl ha hv HE hcap hgA hn
  go_enter Tryz.func48, Tryz.ntmps48
  go_wp2_with (go_at_call 81; (with_reducible refine (HZ.out _).mono ?_); intro e w3 h3; obtain ⟨ra, rb, he⟩ := h3.pair; subst he; have HP := Lib.hid h3; clear h3)
  go_ret2
  exact HP.out
end Go.Proofs.YtkplnbjgkhmbcaaGreatDoor
