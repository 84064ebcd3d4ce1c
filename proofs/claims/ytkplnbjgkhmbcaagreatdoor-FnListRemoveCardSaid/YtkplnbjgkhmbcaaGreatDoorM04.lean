/- starlark's MakeBigInt; impl.whole. · impl.whole; (starlark.Int).get; errors.New. -/
import Derived.Test.YtkplnbjgkhmbcaaGreatDoorM03
import Derived.Test.YtkplnbjgkhmbcaaGreatDoorM01
import Derived.Stop.IfaceNil
import Derived.BigQuiet
namespace Go.Proofs.YtkplnbjgkhmbcaaGreatDoor
open Go.RowKit Go.Proofs.YtkplnbjgkhmbcaaGreatDoorW.PrintWords Go.Proofs.YtkplnbjgkhmbcaaGreatDoorW.PrintLast Go.Proofs.YtkplnbjgkhmbcaaGreatDoorW.PrintMore
set_option linter.unusedVariables false
set_option linter.unusedSimpArgs false

/-- A starlark.Int of the number x; what it points to lies from block B on. -/
def SIv (B : Nat) (w : World) (v : Value) (x : Int) : Prop :=
  (sml x = true ∧ v = .agg #[.int .i64 x, .pointer none]) ∨
  (sml x = false ∧ ∃ g neg u zs, v = .agg #[.int .i64 0, .pointer (some ⟨g, 0, none⟩)] ∧ B ≤ g ∧ BI w g neg u zs ∧ bval neg zs = x ∧ zs.length ≤ 4398046511104)
section
variable {B B' : Nat} {w w' : World} {v : Value} {x : Int}
theorem SIv.mono (h : SIv B w v x) (hB : B' ≤ B) : SIv B' w v x := by
  rcases h with h | ⟨h, g, neg, u, zs, e, hg, hb, r⟩
  · exact Or.inl h
  · exact Or.inr ⟨h, g, neg, u, zs, e, Nat.le_trans hB hg, hb, r⟩
theorem SIv.below (h : SIv B w v x) (hb : Below w.heap.size w w') : SIv B w' v x := by
  rcases h with h | ⟨h, g, neg, u, zs, e, hg, hi, r⟩
  · exact Or.inl h
  · exact Or.inr ⟨h, g, neg, u, zs, e, hg, hi.below hb, r⟩
theorem BI.setOther {g : Nat} {neg : Bool} {u : Value} {zs : List Int} (h : BI w g neg u zs) {p : Addr} (y : Value) (hp : p.block < g) : BI (w.setCell p y) g neg u zs :=
  ⟨blk_far h.blk (by omega) y, h.sl.setCell y (by omega), h.words, h.top⟩
theorem SIv.setCell (h : SIv B w v x) {p : Addr} (y : Value) (hp : p.block < B) : SIv B (w.setCell p y) v x := by
  rcases h with h | ⟨h, g, neg, u, zs, e, hg, hi, r⟩
  · exact Or.inl h
  · exact Or.inr ⟨h, g, neg, u, zs, e, hg, hi.setOther y (by omega), r⟩
theorem SIv.drew (h : SIv B w v x) : SIv B w.drew v x := by
  rcases h with h | ⟨h, g, neg, u, zs, e, hg, hi, r⟩
  · exact Or.inl h
  · exact Or.inr ⟨h, g, neg, u, zs, e, hg, hi.drew, r⟩
theorem SIv.shape (h : SIv B w v x) : ∃ y p, v = .agg #[.int .i64 y, .pointer p] := by
  rcases h with ⟨_, rfl⟩ | ⟨_, g, neg, u, zs, rfl, _⟩ <;> exact ⟨_, _, rfl⟩
end
theorem sml_low (neg : Bool) (zs : List Int) (hw : Words zs) (h : sml (bval neg zs) = true) : leN zs < 4294967296 := by
  have h0 := (leN_bd zs hw).1
  unfold sml bval at h
  cases neg <;> simp at h <;> omega

set_option maxRecDepth 100000 in
theorem makeBigInt_c (g : Nat) (neg : Bool) (v : Value) (zs : List Int) (w : World) (h : BI w g neg v zs) (hlen : zs.length ≤ 4398046511104) :
    Calls Tryz.prog 130 #[.pointer (some ⟨g, 0, none⟩)] w fun e w' => ∃ u, e = .returned u ∧ SIv w.heap.size w' u (bval neg zs) ∧ Below w.heap.size w w' := by
  have H := Lib.hid h
  have hlt := h.lt
  have HS := Lib.hid (fun w' (hb : Below w.heap.size w w') => isSmall_c g neg v zs w' (h.below hb) hlen)
  obtain ⟨x, hx⟩ : ∃ x, bval neg zs = x := ⟨_, rfl⟩
  have HX := Lib.hid hx
  rw [hx] at HS ⊢
  cases hs : sml x
  · have HQ := Lib.hid hs
    rw [hs] at HS
    clear hx hs h
    have HSet := Lib.hid (fun w' v0 (hb : Below w.heap.size w w') g2 (h2 : g2 ≠ g) hk => intSet_c g g2 neg v0 v zs w' (H.out.below hb) h2 hlen hk)
    have hne : w.heap.size + 1 ≠ g := by omega
    go_enter Tryz.func130, Tryz.ntmps130
    go_wp2_with (first | (go_at_call 152; refine (HS.out _ ((Below.refl _ _).alloc (Nat.le_refl _) _)).mono ?_; rintro e w1 ⟨rfl, rfl⟩) | (go_at_call 132; refine (HSet.out _ false (((Below.refl _ _).alloc (Nat.le_refl _) _).alloc (by simp) _) _ hne (by simpa using blk_new (w.alloc _) _)).mono ?_; rintro e w1 ⟨rfl, ⟨u1, hi1⟩, hb1⟩; have HI := Lib.hid hi1; have HB := Lib.hid hb1; have q0 := (HB.out.cell (p := ⟨w.heap.size, 0, none⟩) (by simp)).trans (show World.cell? _ _ = some (.int .i64 0) from by go_simp); have q1 := (HB.out.cell (p := ⟨w.heap.size, 1, none⟩) (by simp)).trans (show World.cell? _ _ = some (.pointer none) from by go_simp); have f0 := (HB.out.frozen (p := ⟨w.heap.size, 0, none⟩) (by simp)).trans (show World.frozen? _ _ = false from by go_simp); have f1 := (HB.out.frozen (p := ⟨w.heap.size, 1, none⟩) (by simp)).trans (show World.frozen? _ _ = false from by go_simp); clear hi1 hb1) | (go_at_call 155; refine (makeBig_c _ _).mono ?_; rintro e w2 ⟨rfl, hb2⟩; have HB2 := Lib.hid hb2; have hlt2 := HI.out.lt; have q0' := (HB2.out.cell (p := ⟨w.heap.size, 0, none⟩) (by show w.heap.size < _; omega)).trans q0; have q1' := (HB2.out.cell (p := ⟨w.heap.size, 1, none⟩) (by show w.heap.size < _; omega)).trans q1; have f0' := (HB2.out.frozen (p := ⟨w.heap.size, 0, none⟩) (by show w.heap.size < _; omega)).trans f0; have f1' := (HB2.out.frozen (p := ⟨w.heap.size, 1, none⟩) (by show w.heap.size < _; omega)).trans f1; clear hb2))
    refine bodyPost_ret (v := .agg #[.int .i64 0, .pointer (some ⟨w.heap.size + 1, 0, none⟩)]) (by simp [results, Tryz.results130, go_sem, q0', q1']) rfl ⟨_, rfl, Or.inr ⟨HQ.out, w.heap.size + 1, neg, u1, zs, rfl, by omega, ((HI.out.below HB2.out).setOther _ (by simp)).setOther _ (by simp), HX.out, hlen⟩, ?_⟩
    have hsz := HB.out.size
    have hsz2 := HB2.out.size
    simp at hsz
    exact (((((Below.refl _ _).alloc (Nat.le_refl _) _).alloc (by simp) _).trans (HB.out.mono (by simp))).trans (HB2.out.mono (by omega))).setCell (Nat.le_refl _) _ |>.setCell (Nat.le_refl _) _
  · have HQ := Lib.hid hs
    rw [hs] at HS
    have HV := Lib.hid (i64Of_bval neg zs h.words h.top (sml_low neg zs h.words (by rw [hx]; exact hs)))
    clear hx hs h
    have H64 := Lib.hid (fun w' (hb : Below w.heap.size w w') => intInt64_c g neg v zs w' (H.out.below hb))
    rw [HV.out, HX.out] at H64
    go_enter Tryz.func130, Tryz.ntmps130
    go_wp2_with (first | (go_at_call 152; refine (HS.out _ ((Below.refl _ _).alloc (Nat.le_refl _) _)).mono ?_; rintro e w1 ⟨rfl, rfl⟩) | (go_at_call 154; refine (H64.out _ ((Below.refl _ _).alloc (Nat.le_refl _) _)).mono ?_; rintro e w1 ⟨rfl, rfl⟩) | (go_at_call 153; refine (makeSmall_c _ _).mono ?_; rintro e w2 ⟨rfl, hb2⟩; have HB2 := Lib.hid hb2; obtain ⟨hc2, hf2⟩ := bcell hb2; clear hb2))
    refine bodyPost_ret (v := .agg #[.int .i64 x, .pointer none]) (by simp [results, Tryz.results130, go_sem, hc2]) rfl ⟨_, rfl, Or.inl ⟨HQ.out, rfl⟩, ?_⟩
    have hsz := HB2.out.size
    simp at hsz
    exact ((((Below.refl _ _).alloc (Nat.le_refl _) _).trans (HB2.out.mono (by simp))).setCell (Nat.le_refl _) _).setCell (Nat.le_refl _) _
#print axioms makeBigInt_c
end Go.Proofs.YtkplnbjgkhmbcaaGreatDoor

namespace Go.Proofs.YtkplnbjgkhmbcaaGreatDoor
open Go.RowKit Go.Proofs.YtkplnbjgkhmbcaaGreatDoorW.PrintWords Go.Proofs.YtkplnbjgkhmbcaaGreatDoorW.PrintLast Go.Proofs.YtkplnbjgkhmbcaaGreatDoorW.PrintMore
set_option linter.unusedVariables false
set_option linter.unusedSimpArgs false

theorem lt_blk {w : World} {g : Nat} {o : Obj} (h : w.heap[g]? = some o) : g < w.heap.size := by
  rcases Nat.lt_or_ge g w.heap.size with h1 | h1
  · exact h1
  · rw [Array.getElem?_eq_none h1] at h; cases h
theorem blk_keep {w w' : World} {B g : Nat} {o : Obj} (h : w.heap[g]? = some o) (hb : Below B w w') (hg : g < B) : w'.heap[g]? = some o := (hb.block g hg).trans h
theorem pow8_words (n : Nat) : (256 : Int) ^ n ≤ 18446744073709551616 ^ n := by
  have h : (18446744073709551616 : Int) = 256 ^ 8 := by decide
  rw [h, ← Int.pow_mul]
  exact pow_le_pow _ _ (by omega)
theorem words_le (l zs : List Int) (hl : Bytes l) (hw : Words zs) (ht : Top zs) (h : leN zs = beN l) : zs.length ≤ l.length := by
  rcases Nat.lt_or_ge l.length zs.length with hlt | hge
  · have hne : zs ≠ [] := by rintro rfl; simp at hlt
    have h1 := leN_top zs hw ht hne
    have h2 := (beN_bd l hl).2
    have h3 := pow8_words l.length
    have h4 : (18446744073709551616 : Int) ^ l.length ≤ 18446744073709551616 ^ (zs.length - 1) := by
      obtain ⟨c, hc⟩ : ∃ c, zs.length - 1 = l.length + c := ⟨zs.length - 1 - l.length, by omega⟩
      rw [hc, Int.pow_add]
      have := wpos l.length
      have h5 := wpos c
      have : (18446744073709551616 : Int) ^ l.length * 1 ≤ 18446744073709551616 ^ l.length * 18446744073709551616 ^ c := Int.mul_le_mul_of_nonneg_left (by omega) (by omega)
      omega
    omega
  · exact hge

theorem two_cells {w : World} {g : Nat} {a b : Value} {t : TypeId} (h : w.heap[g]? = some (.cells #[a, b] t (0, 0))) :
    w.cell? ⟨g, 0, none⟩ = some a ∧ w.cell? ⟨g, 1, none⟩ = some b ∧ w.frozen? ⟨g, 0, none⟩ = false ∧ w.frozen? ⟨g, 1, none⟩ = false :=
  ⟨_root_.Go.Proofs.YtkplnbjgkhmbcaaGreatDoor.blk_cell h 0 _ rfl, _root_.Go.Proofs.YtkplnbjgkhmbcaaGreatDoor.blk_cell h 1 _ rfl, blk_free h 0, blk_free h 1⟩
theorem bval_neg (zs l : List Int) (h : leN zs = beN l) : bval (decide (0 < zs.length) && true) zs = val true l := by
  unfold bval val
  by_cases hz : 0 < zs.length
  · simp [hz, h]
  · have : zs = [] := List.eq_nil_of_length_eq_zero (by omega)
    subst this
    rw [← h]; simp [leN]
theorem bval_pos (zs l : List Int) (h : leN zs = beN l) : bval false zs = val false l := by
  unfold bval val; simp [h]

set_option maxRecDepth 100000 in
theorem iwhole_c (B : Nat) (k bits : Int) (n : Bool) (txt : ByteArray) (v2 : Value) (A5 : Option Addr) (n5 c5 : Nat) (l : List Int) (w : World) (h : Sl .u8 B w v2 l) (hl : Bytes l) (hlen : l.length ≤ 2147483647) :
    Calls Tryz.prog 91 #[.agg #[.int .i64 k, .bool n, v2, .int .u64 bits, .string txt, .slice A5 n5 c5]] w fun e w' => ∃ u, e = .returned u ∧ SIv w.heap.size w' u (val n l) ∧ Below w.heap.size w w' := by
  have HS := Lib.hid (fun w' g (hb : Below w.heap.size w w') hk => intSetBytes_c g B false v2 l w' (h.below hb) hl hlen hk)
  have HW := Lib.hid (fun zs hw ht he => words_le l zs hl hw ht he)
  obtain ⟨A2, c2, rfl, _⟩ := h.c
  clear h hl
  have HB0 : Hid (Below w.heap.size w (((w.alloc (.cells #[.int .i64 k, .bool n, .slice A2 l.length c2, .int .u64 bits, .string txt, .slice A5 n5 c5] 26)).alloc (.cells #[.int .i64 0, .pointer none] 122)).alloc (.cells #[.bool false, .slice none 0 0] 196))) :=
    (((Below.refl _ _).alloc (Nat.le_refl _) _).alloc (by simp) _).alloc (by simp; omega) _
  have HK1 : Hid ((((w.alloc (.cells #[.int .i64 k, .bool n, .slice A2 l.length c2, .int .u64 bits, .string txt, .slice A5 n5 c5] 26)).alloc (.cells #[.int .i64 0, .pointer none] 122)).alloc (.cells #[.bool false, .slice none 0 0] 196)).heap[w.heap.size + 1]? = some (.cells #[.int .i64 0, .pointer none] 122 (0, 0))) :=
    blk_alloc (by simpa using blk_new (w.alloc _) _) _
  cases n
  all_goals
    go_enter Tryz.func91, Tryz.ntmps91
    go_wp2_with (first | (go_at_call 128; refine (HS.out _ (w.heap.size + 1 + 1) HB0.out (by simpa using blk_new ((w.alloc _).alloc _) _)).mono ?_; rintro e w1 ⟨rfl, ⟨u1, zs, hi1, hz1⟩, hb1⟩; have HI := Lib.hid hi1; have HZ := Lib.hid (And.intro hz1 (HW.out zs hi1.words hi1.top hz1)); have HB := Lib.hid (HB0.out.trans (hb1.mono (by omega))); have K1 := Lib.hid (blk_keep HK1.out hb1 (by omega)); have k1 := (hb1.cell (p := ⟨w.heap.size, 1, none⟩) (by show w.heap.size < _; omega)).trans (show World.cell? _ _ = some _ from by go_simp; rfl); clear hi1 hz1 hb1) | (go_at_call 129; refine (intNeg_c _ _ _ _ _ HI.out).mono ?_; rintro e w2 ⟨rfl, hi2, hb2⟩; replace HI := Lib.hid hi2; replace HB := Lib.hid (HB.out.trans (hb2.mono (by omega))); replace K1 := Lib.hid (blk_keep K1.out hb2 (by omega)); clear hi2 hb2) | (go_at_call 130; refine (makeBigInt_c _ _ _ _ _ HI.out (by have := HZ.out.2; omega)).mono ?_; rintro e w3 ⟨u, rfl, hu, hb3⟩; obtain ⟨y, p, rfl⟩ := hu.shape; obtain ⟨q0, q1, f0, f1⟩ := two_cells (blk_keep K1.out hb3 (lt_blk K1.out)); have hl3 := HI.out.lt; have HU := Lib.hid (hu.mono (by omega : w.heap.size + 2 ≤ _)); replace HB := Lib.hid (HB.out.trans (hb3.mono (by omega))); clear hu hb3))
    refine bodyPost_ret (v := .agg #[.int .i64 y, .pointer p]) (by simp [results, Tryz.results91, go_sem, q0, q1]) rfl ⟨_, rfl, ?_, (HB.out.setCell (p := ⟨w.heap.size + 1, 0, none⟩) (by show w.heap.size ≤ w.heap.size + 1; omega) _).setCell (p := ⟨w.heap.size + 1, 1, none⟩) (by show w.heap.size ≤ w.heap.size + 1; omega) _⟩
    have hU := ((HU.out.setCell (p := ⟨w.heap.size + 1, 0, none⟩) (.int .i64 y) (by show w.heap.size + 1 < _; omega)).setCell (p := ⟨w.heap.size + 1, 1, none⟩) (.pointer p) (by show w.heap.size + 1 < _; omega)).mono (Nat.le_add_right _ 2)
    first | rw [← bval_pos zs l HZ.out.1]; exact hU | rw [← bval_neg zs l HZ.out.1]; exact hU

/-- (starlark.Int).get. -/
theorem get_c (y : Int) (p : Option Addr) (w : World) :
    Calls Tryz.prog 98 #[.agg #[.int .i64 y, .pointer p]] w fun e w' => e = .returned (.tuple #[.int .i64 y, .pointer p]) ∧ Below w.heap.size w w' := by
  go_enter Tryz.func98, Tryz.ntmps98
  go_wp2
  go_quiet (fail)
  go_wp2
  go_ret2
  exact ⟨rfl, by apply pw_below_drewN; exact (Below.refl _ _).alloc (Nat.le_refl _) _⟩

set_option maxRecDepth 100000 in
theorem errNew_c (s : ByteArray) (w : World) :
    Calls Tryz.prog 59 #[.string s] w fun e w' => ∃ a, e = .returned (.iface 187 (.pointer (some a))) ∧ Below w.heap.size w w' := by
  go_enter Tryz.func59, Tryz.ntmps59
  go_wp2
  go_ret
  exact ⟨_, rfl, (Below.refl _ _).alloc (Nat.le_refl _) _⟩

end Go.Proofs.YtkplnbjgkhmbcaaGreatDoor
