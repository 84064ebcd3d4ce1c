/- euclidUpdate; the greatest common divisor of numbers of which one is a single word, where it is 1. -/
import Derived.Test.YtkplnbjgkhmbcaaGreatDoorM16
import Derived.Test.YtkplnbjgkhmbcaaGreatDoorM15
import Derived.Test.YtkplnbjgkhmbcaaGreatDoorM12
import Derived.Deep.DeepCutAuto
import Derived.BigQuiet
import Derived.Deep.QuietTactic
namespace Go.Proofs.YtkplnbjgkhmbcaaGreatDoor
open Go.RowKit Go.Shelf Go.Proofs.YtkplnbjgkhmbcaaGreatDoorW.PrintWords Go.Proofs.YtkplnbjgkhmbcaaGreatDoorW.PrintLast Go.Proofs.YtkplnbjgkhmbcaaGreatDoorW.PrintMore
set_option linter.unusedVariables false
set_option linter.unusedSimpArgs false

set_option maxRecDepth 100000 in
theorem euclidUpdate_c (gq gr ga gb : Nat) (va vb : Value) (zs : List Int) (y : Int) (w : World) (ha : BI w ga false va zs) (hb : BI w gb false vb [y]) (h2 : 2 ≤ zs.length) (hmax : zs.length ≤ 4398046511104) (h0 : 0 < y) (h1 : y < 9223372036854775808)
    (hq : w.heap[gq]? = some (.cells #[.bool false, .slice none 0 0] 196 (0, 0))) (hr : w.heap[gr]? = some (.cells #[.bool false, .slice none 0 0] 196 (0, 0)))
    (hqr : gq < gr) (ne1 : ga < gq) (ne2 : gb < gq) :
    Calls Tryz.prog 200 #[.pointer (some ⟨ga, 0, none⟩), .pointer (some ⟨gb, 0, none⟩), .pointer none, .pointer none, .pointer (some ⟨gq, 0, none⟩), .pointer (some ⟨gr, 0, none⟩), .bool false] w fun e w' =>
      e = .returned (.tuple #[.pointer (some ⟨gb, 0, none⟩), .pointer (some ⟨gr, 0, none⟩), .pointer (some ⟨ga, 0, none⟩), .pointer none, .pointer none]) ∧ (∃ u, BI w' gr false u (wordL (leN zs % y))) ∧ Below gq w w' := by
  have HC := Lib.hid (quoRem_c gq gr ga gb va vb zs y w ha hb h2 hmax h0 h1 hq hr hqr ne1 ne2)
  clear ha hb h2 hmax h0 h1 hq hr hqr ne1 ne2
  generalize wordL (leN zs % y) = rl at HC ⊢
  go_enter Tryz.func200, Tryz.ntmps200
  go_wp2_with (go_at_call 221; with_reducible refine HC.out.mono ?_; rintro e w1 ⟨rfl, ⟨u, hu⟩, hb⟩; have HU := Lib.hid hu; have HB := Lib.hid hb; clear hu hb)
  refine bodyPost_ret (v := .tuple #[.pointer (some ⟨gb, 0, none⟩), .pointer (some ⟨gr, 0, none⟩), .pointer (some ⟨ga, 0, none⟩), .pointer none, .pointer none]) (by simp [results, Tryz.results200, go_sem]) rfl ⟨rfl, ⟨_, HU.out⟩, HB.out⟩

/-- Two Ints and two new ones: where the loop of lehmerGCD begins. -/
structure GR (w0 : World) (gA rA cA gB rB cB gq gr : Nat) (la lb : List Int) (w : World) : Prop where
  A : OI w gA rA cA false la
  B : OI w gB rB cB false lb
  q : w.heap[gq]? = some (.cells #[.bool false, .slice none 0 0] 196 (0, 0))
  r : w.heap[gr]? = some (.cells #[.bool false, .slice none 0 0] 196 (0, 0))
  oA : rA < gq
  oB : rB < gq
  oq : gq < gr
  lA : w0.heap.size ≤ gA
  lB : w0.heap.size ≤ gB
  low : Below w0.heap.size w0 w
theorem GR.swap {w0 w : World} {gA rA cA gB rB cB gq gr : Nat} {la lb : List Int} (h : GR w0 gA rA cA gB rB cB gq gr la lb w) : GR w0 gB rB cB gA rA cA gq gr lb la w :=
  ⟨h.B, h.A, h.q, h.r, h.oB, h.oA, h.oq, h.lB, h.lA, h.low⟩
theorem GR.drewN {w0 w : World} {gA rA cA gB rB cB gq gr : Nat} {la lb : List Int} (h : GR w0 gA rA cA gB rB cB gq gr la lb w) (n : Nat) : GR w0 gA rA cA gB rB cB gq gr la lb (w.drewN n) :=
  ⟨h.A.drewN n, h.B.drewN n, h.q, h.r, h.oA, h.oB, h.oq, h.lA, h.lB, pw_below_drewN h.low n⟩
/-- What is asked of the two numbers, the greater one first. -/
structure GN (la : List Int) (y : Int) : Prop where
  bez : Bez (leN la) y
  ne : la ≠ []
  one : la.length = 1 ∨ (2 ≤ la.length ∧ y < 9223372036854775808)
  y0 : 0 < y
  y1 : y < 18446744073709551616
theorem single {l : List Int} (h : l.length = 1) (hw : Words l) (ht : Top l) : ∃ x, l = [x] ∧ 0 < x ∧ x < 18446744073709551616 := by
  match l, h with
  | [x], _ =>
    have h1 := hw x (List.mem_cons_self)
    have h2 := ht (by simp)
    simp at h2
    exact ⟨x, rfl, by omega, h1.2⟩
theorem leN_one (x : Int) : leN [x] = x := by simp [leN]
theorem sgn_lt0 {x : Int} (h : x < 0) : sgn x < 0 := (sgn_lt x).2 h
theorem sgn_ge0 {x : Int} (h : ¬ x < 0) : ¬ sgn x < 0 := fun h2 => h ((sgn_lt x).1 h2)

theorem gn_of {zs ws : List Int} (wz : Words zs) (tz : Top zs) (ww : Words ws) (tw : Top ws) (h1 : zs ≠ []) (hb : Bez (leN zs) (leN ws)) (h : ws.length = 1 ∧ (zs.length = 1 ∨ leN ws < 9223372036854775808)) : ∃ y, ws = [y] ∧ GN zs y := by
  obtain ⟨y, rfl, y0, y1⟩ := single h.1 ww tw
  rw [leN_one] at hb h
  have hl : 0 < zs.length := List.length_pos_iff.2 h1
  refine ⟨y, rfl, hb, h1, ?_, y0, y1⟩
  rcases h.2 with h3 | h3
  · exact Or.inl h3
  · by_cases e : zs.length = 1
    · exact Or.inl e
    · exact Or.inr ⟨by omega, h3⟩
theorem gn_lt {zs ws : List Int} (wz : Words zs) (tz : Top zs) (ww : Words ws) (tw : Top ws) (h1 : zs ≠ []) (h2 : ws ≠ []) (hlt : leN zs - leN ws < 0) (hb : Bez (leN zs) (leN ws))
    (hone : (zs.length = 1 ∧ (ws.length = 1 ∨ leN zs < 9223372036854775808)) ∨ (ws.length = 1 ∧ (zs.length = 1 ∨ leN ws < 9223372036854775808))) : ∃ y, zs = [y] ∧ GN ws y := by
  have hz : 0 < zs.length := List.length_pos_iff.2 h1
  refine gn_of ww tw wz tz h2 hb.swap ?_
  rcases hone with h | h
  · exact h
  · by_cases e : zs.length = 1
    · exact ⟨e, Or.inl h.1⟩
    · have := leN_longer ws zs ww wz tz (by omega)
      omega
theorem gn_ge {zs ws : List Int} (wz : Words zs) (tz : Top zs) (ww : Words ws) (tw : Top ws) (h1 : zs ≠ []) (h2 : ws ≠ []) (hge : ¬ leN zs - leN ws < 0) (hb : Bez (leN zs) (leN ws))
    (hone : (zs.length = 1 ∧ (ws.length = 1 ∨ leN zs < 9223372036854775808)) ∨ (ws.length = 1 ∧ (zs.length = 1 ∨ leN ws < 9223372036854775808))) : ∃ y, ws = [y] ∧ GN zs y := by
  have hw : 0 < ws.length := List.length_pos_iff.2 h2
  refine gn_of wz tz ww tw h1 hb ?_
  rcases hone with h | h
  · by_cases e : ws.length = 1
    · exact ⟨e, Or.inl h.1⟩
    · have := leN_longer zs ws wz ww tw (by omega)
      omega
  · exact h

/-- Where the loop on words begins: A is one word; B is one, or none and A is 1. -/
structure GW (w0 : World) (gA rA cA gB : Nat) (vb : Value) (lb : List Int) (x : Int) (w : World) : Prop where
  A : OI w gA rA cA false [x]
  B : BI w gB false vb lb
  lA : w0.heap.size ≤ gA
  low : Below w0.heap.size w0 w
  x0 : 0 ≤ x ∧ x < 18446744073709551616
  num : (lb = [] ∧ x = 1) ∨ ∃ y, lb = [y] ∧ Bez x y ∧ 0 < y ∧ y < 18446744073709551616
theorem gw_single {w0 w : World} {gA rA cA gB rB cB gq gr : Nat} {la : List Int} {y : Int} (h : GR w0 gA rA cA gB rB cB gq gr la [y] w) (hn : GN la y) (h1 : la.length = 1) : ∃ x, la = [x] ∧ GW w0 gA rA cA gB (.slice (some ⟨rB, 0, none⟩) 1 cB) [y] x w := by
  obtain ⟨x, rfl, hx0, hx1⟩ := single h1 h.A.words h.A.top
  have hb := hn.bez
  rw [leN_one] at hb
  exact ⟨x, rfl, h.A, h.B.bi, h.lA, h.low, ⟨by omega, hx1⟩, Or.inr ⟨y, rfl, hb, hn.y0, hn.y1⟩⟩
theorem gw_long {w0 w w1 : World} {gA rA cA gB rB cB gq gr : Nat} {la : List Int} {y : Int} {u : Value} (h : GR w0 gA rA cA gB rB cB gq gr la [y] w) (hn : GN la y) (hu : BI w1 gr false u (wordL (leN la % y))) (hb : Below gq w w1) : GW w0 gB rB cB gr u (wordL (leN la % y)) y w1 := by
  have hB := h.lB
  have hq : w0.heap.size ≤ gq := by have := h.oB; have := h.B.gr; omega
  have hy := hn.y0
  refine ⟨h.B.keep hb h.oB, hu, hB, h.low.trans (hb.mono hq), ⟨by omega, hn.y1⟩, ?_⟩
  have hs := hn.bez.step
  have e0 := Int.emod_nonneg (leN la) (b := y) (by omega)
  have e1 := Int.emod_lt_of_pos (leN la) hy
  have := hn.y1
  unfold wordL
  by_cases hz : leN la % y = 0
  · rw [if_pos hz]
    rw [hz] at hs
    exact Or.inl ⟨rfl, hs.zero (by omega)⟩
  · rw [if_neg hz]
    exact Or.inr ⟨_, rfl, hs, by omega, by omega⟩

theorem oi_one {w : World} {g r c : Nat} {neg : Bool} {x : Int} (h : OI w g r c neg [x]) (y : Int) (hy : 0 < y) (hy1 : y < 18446744073709551616) : OI (w.setCell ⟨r, 0, none⟩ (.int .u64 y)) g r c neg [y] := by
  have := h.row.set 0 (by simp) y
  exact ⟨blk_far h.blk (by have := h.gr; show g ≠ r; omega) _, by simpa using this, h.gr, by simpa [World.setCell] using h.rl, h.cap, h.len, fun z hz => by rw [List.mem_singleton] at hz; rw [hz]; omega, fun _ => by simp; omega⟩
theorem words_loop {x y : Int} (h : Bez x y) (hx : 0 ≤ x ∧ x < 18446744073709551616) (hy : 0 < y ∧ y < 18446744073709551616) : Bez y (x % y) ∧ 0 ≤ x % y ∧ x % y < y ∧ x.tmod y = x % y ∧ IntKind.u64.wrap (x % y) = x % y := by
  have e0 := Int.emod_nonneg x (b := y) (by omega)
  have e1 := Int.emod_lt_of_pos x hy.1
  exact ⟨h.step, e0, e1, Int.tmod_eq_emod_of_nonneg hx.1, wrap_same _ e0 (by omega)⟩

theorem drewN_two (w : World) (a b : Nat) : (w.drewN a).drewN b = w.drewN (a + b) := by
  simp [World.drewN, Nat.add_assoc]

set_option maxRecDepth 100000 in
set_option maxHeartbeats 4000000 in
/-- lehmerGCD of two numbers without a common divisor, one of them a single word: 1. -/
theorem gcd_c (gz g : Nat) (va vb : Value) (zs ws : List Int) (w : World) (ha : PI w g 0 false va zs) (hb : PI w g 2 false vb ws) (hz : w.heap[gz]? = some (.cells #[.bool false, .slice none 0 0] 196 (0, 0))) (hg : g < gz)
    (hbz : Bez (leN zs) (leN ws)) (h1 : zs ≠ []) (h2 : ws ≠ []) (hl1 : zs.length ≤ 100000) (hl2 : ws.length ≤ 100000)
    (hone : (zs.length = 1 ∧ (ws.length = 1 ∨ leN zs < 9223372036854775808)) ∨ (ws.length = 1 ∧ (zs.length = 1 ∨ leN ws < 9223372036854775808))) :
    Calls Tryz.prog 174 #[.pointer (some ⟨gz, 0, none⟩), .pointer none, .pointer none, .pointer (some ⟨g, 0, none⟩), .pointer (some ⟨g, 2, none⟩)] w fun e w' => e = .returned (.pointer (some ⟨gz, 0, none⟩)) ∧ (∃ u, BI w' gz false u [1]) ∧ Below gz w w' := by
  have hgz := blk_lt hz
  have c0 := ha.c0
  have HPA := Lib.hid (fun w' (h : Below w.heap.size w w') => ha.below h)
  have HPB := Lib.hid (fun w' (h : Below w.heap.size w w') => hb.below h)
  have HZ := Lib.hid hz
  have HN := Lib.hid (And.intro ha.words (And.intro ha.top (And.intro hb.words hb.top)))
  have HO := Lib.hid (And.intro hbz hone)
  have hgl : g < w.heap.size := Nat.lt_trans hg hgz
  clear ha hb hz hbz hone
  go_enter Tryz.func174, Tryz.ntmps174
  go_upto_region 10 with (first
    | (go_at_call_of 197 (Value.pointer (some ⟨g, 0, none⟩)); with_reducible refine (intAbsO_c g 0 w.heap.size false false va zs _ (HPA.out _ ((Below.refl _ _).alloc (Nat.le_refl _) _)) h1 (by omega) (by omega) (blk_new _ _)).mono ?_; rintro e w1 ⟨rfl, ⟨cA, hA⟩, hb1⟩; have HA := Lib.hid hA; have HB1 := Lib.hid (((Below.refl _ _).alloc (Nat.le_refl _) _).trans hb1); clear hA hb1)
    | (go_at_call 197; with_reducible refine (intAbsO_c g 2 w1.heap.size false false vb ws _ (HPB.out _ (HB1.out.alloc HB1.out.size _)) h2 (by have := HB1.out.size; omega) (by omega) (blk_new _ _)).mono ?_; rintro e w2 ⟨rfl, ⟨cB, hB⟩, hb2⟩; have HBB := Lib.hid hB; have HB2 := Lib.hid hb2; clear hB hb2))
  have hs1 : (w1.alloc (.cells #[.bool false, .slice none 0 0] 196)).heap.size = w1.heap.size + 1 := by simp
  have hs0 : (w.alloc (.cells #[.bool false, .slice none 0 0] 196)).heap.size = w.heap.size + 1 := by simp
  rw [hs1] at HBB
  rw [hs0] at HA
  have HG : Hid (GR w w.heap.size (w.heap.size + 1) cA w1.heap.size (w1.heap.size + 1) cB w2.heap.size (w2.heap.size + 1) zs ws ((w2.alloc (.cells #[.bool false, .slice none 0 0] 196)).alloc (.cells #[.bool false, .slice none 0 0] 196))) := by
    have b0 : ∀ (W : World) o1 o2, Below W.heap.size W ((W.alloc o1).alloc o2) := fun W o1 o2 => ((Below.refl _ _).alloc (Nat.le_refl _) o1).alloc (by simp) o2
    have a1 := (HA.out.below ((Below.refl _ _).alloc (Nat.le_refl _) (.cells #[.bool false, .slice none 0 0] 196))).keep HB2.out HA.out.rl
    have s1 := HB1.out.size
    have s2 := HB2.out.size
    rw [hs1] at s2
    exact ⟨a1.below (b0 _ _ _), HBB.out.below (b0 _ _ _), blk_alloc (blk_new _ _) _, by simpa using blk_new (w2.alloc (.cells #[.bool false, .slice none 0 0] 196)) (.cells #[.bool false, .slice none 0 0] 196), a1.rl, HBB.out.rl, by omega, Nat.le_refl _, s1, (((HB1.out.alloc s1 _).trans (HB2.out.mono s1)).alloc (by omega) _).alloc (by simp; omega) _⟩
  clear hs0 hs1 HA HBB HB1 HB2 HPA HPB
  generalize (w2.alloc (.cells #[.bool false, .slice none 0 0] 196)).alloc (.cells #[.bool false, .slice none 0 0] 196) = W at HG ⊢
  generalize w2.heap.size = gq at HG ⊢
  generalize w1.heap.size = gB at HG ⊢
  generalize gB + 1 = rB at HG
  generalize w.heap.size + 1 = rA at HG
  obtain ⟨dd, hdd⟩ : ∃ dd, decide (leN zs - leN ws < 0) = dd := ⟨_, rfl⟩
  have HDD := Lib.hid hdd
  clear hdd
  go_cut [60] (fun s wx => s = .bool dd ∧ Hid (GR w w.heap.size rA cA gB rB cB gq (gq + 1) zs ws wx))
  case first =>
    have a1 := HG.out.A.bi.c1
    have b1 := HG.out.B.bi.c1
    have HCm := Lib.hid (fun W' (h : Below W.heap.size W W') => natCmp_c _ _ _ _ zs ws W' (HG.out.A.sl.below h) (HG.out.B.sl.below h) HN.out.1 HN.out.2.2.1 HN.out.2.1 HN.out.2.2.2 (by omega) (by omega))
    cases dd
    case false =>
      as_aux_lemma =>
        have hs := sgn_ge0 (of_decide_eq_false HDD.out)
        generalize sgn (leN zs - leN ws) = s at hs HCm
        go_quiet ((go_at_call 137; exact Calls.quiet_of (HCm.out _ (pw_below_drewN (Below.refl _ _) _))))
        go_wp2_with fail
        go_meet
        exact ⟨rfl, HG.out.drewN _⟩
    case true =>
      as_aux_lemma =>
        have hs := sgn_lt0 (of_decide_eq_true HDD.out)
        generalize sgn (leN zs - leN ws) = s at hs HCm
        go_quiet ((go_at_call 137; exact Calls.quiet_of (HCm.out _ (pw_below_drewN (Below.refl _ _) _))))
        go_wp2_with fail
        go_meet
        exact ⟨rfl, HG.out.drewN _⟩
  case rest =>
  obtain ⟨rfl, HG⟩ := hcut
  go_upto_if 60 with fail
  go_cut [11, 12, 13, 14] (fun a b u v wx => u = .pointer none ∧ v = .pointer none ∧ ∃ gA rA cA gB rB cB la y, a = .pointer (some ⟨gA, 0, none⟩) ∧ b = .pointer (some ⟨gB, 0, none⟩) ∧ Hid (GR w gA rA cA gB rB cB gq (gq + 1) la [y] wx) ∧ Hid (GN la y))
  case first =>
    cases dd
    case true =>
      as_aux_lemma =>
        obtain ⟨y, rfl, hn⟩ := gn_lt HN.out.1 HN.out.2.1 HN.out.2.2.1 HN.out.2.2.2 h1 h2 (of_decide_eq_true HDD.out) HO.out.1 HO.out.2
        have HHN := Lib.hid hn
        clear hn
        go_wp2_with fail
        go_meet
        exact ⟨rfl, rfl, _, _, _, _, _, _, _, _, rfl, rfl, HG.out.swap, HHN⟩
    case false =>
      as_aux_lemma =>
        obtain ⟨y, rfl, hn⟩ := gn_ge HN.out.1 HN.out.2.1 HN.out.2.2.1 HN.out.2.2.2 h1 h2 (of_decide_eq_false HDD.out) HO.out.1 HO.out.2
        have HHN := Lib.hid hn
        clear hn
        go_wp2_with fail
        go_meet
        exact ⟨rfl, rfl, _, _, _, _, _, _, _, _, rfl, rfl, HG, HHN⟩
  case rest =>
    obtain ⟨rfl, rfl, gA, rA, cA, gB, rB, cB, la, y, rfl, rfl, HG2, HGN⟩ := hcut
    clear HG
    go_wp2_with fail
    have a1 := HG2.out.A.bi.c1
    have b1 : wc.cell? ⟨gB, 1, none⟩ = some (.slice (some ⟨rB, 0, none⟩) 1 cB) := HG2.out.B.bi.c1
    have hx0 : 0 < la.length := List.length_pos_iff.2 HGN.out.ne
    refine wp_loop_rounds 1 ?_
    rw [rounds_succ]
    go_upto_if 128 with fail
    go_cut [11, 12, 13, 14, 17] (fun a b u v s17 wx => u = .pointer none ∧ v = .pointer none ∧ ∃ gA rA cA gB vb lb x, a = .pointer (some ⟨gA, 0, none⟩) ∧ b = .pointer (some ⟨gB, 0, none⟩) ∧ Hid (GW w gA rA cA gB vb lb x wx))
    case first =>
      by_cases hl : la.length = 1
      · as_aux_lemma =>
          obtain ⟨x, rfl, hgw⟩ := gw_single HG2.out HGN.out hl
          have HGW := Lib.hid hgw
          clear hgw
          go_wp2_with fail
          go_meet
          exact ⟨rfl, rfl, _, _, _, _, _, _, _, rfl, rfl, HGW⟩
      · as_aux_lemma =>
          have h2 : (1 : Nat) < la.length := by omega
          have HCE := Lib.hid (euclidUpdate_c gq (gq + 1) gA gB _ _ la y wc HG2.out.A.bi HG2.out.B.bi h2 HG2.out.A.len HGN.out.y0 (by rcases HGN.out.one with h | h; exact absurd h hl; exact h.2) HG2.out.q HG2.out.r (by omega) (by have := HG2.out.oA; have := HG2.out.A.gr; omega) (by have := HG2.out.oB; have := HG2.out.B.gr; omega))
          have HGL := Lib.hid (fun u w1 hu hb => gw_long (u := u) (w1 := w1) HG2.out HGN.out hu hb)
          generalize wordL (leN la % y) = rl at HCE HGL
          go_wp2_with (go_at_call 200; with_reducible refine HCE.out.mono ?_; rintro e w3 ⟨rfl, ⟨u, hu⟩, hb3⟩; have HGW := Lib.hid (HGL.out u w3 hu hb3); clear hu hb3)
          go_meet
          exact ⟨rfl, rfl, _, _, _, _, _, _, _, rfl, rfl, HGW⟩
    case rest =>
      obtain ⟨rfl, rfl, gA, rA, cA, gB, vb, lb, x, rfl, rfl, HGW⟩ := hcut
      clear HG2 a1 b1
      have a1 : wc.cell? ⟨gA, 1, none⟩ = some (.slice (some ⟨rA, 0, none⟩) 1 cA) := HGW.out.A.bi.c1
      have b1 := HGW.out.B.c1
      have c1 := (HGW.out.low.cell (p := ⟨g, 0, none⟩) hgl).trans c0
      have hk := (HGW.out.low.block gz hgz).trans HZ.out
      have hne : gz ≠ gA := by have := HGW.out.lA; omega
      rcases HGW.out.num with ⟨rfl, rfl⟩ | ⟨y, rfl, hbz, hy0, hy1⟩
      · as_aux_lemma =>
          have HSet := Lib.hid (intSet_c gA gz false false _ [1] wc HGW.out.A.bi hne (by simp) hk)
          have HLow := Lib.hid HGW.out.low
          obtain ⟨Ab, cb, rfl, _⟩ := HGW.out.B.sl.c
          simp only [List.length_nil] at b1
          clear HGW hk
          go_wp2_with (go_at_call 132; with_reducible refine HSet.out.mono ?_; rintro e w5 ⟨rfl, ⟨u, hu⟩, hb5⟩; have HU := Lib.hid hu; have HB5 := Lib.hid hb5; clear hu hb5)
          go_ret
          exact ⟨rfl, ⟨_, HU.out⟩, (HLow.out.mono (Nat.le_of_lt hgz)).trans HB5.out⟩
      · as_aux_lemma =>
          have ha0 : wc.cell? ⟨rA, 0, none⟩ = some (.int .u64 x) := by simpa using HGW.out.A.row.1 0 (by simp)
          have hf0 : wc.frozen? ⟨rA, 0, none⟩ = false := HGW.out.A.row.2 0 (by simp)
          obtain ⟨Ab, cb, rfl, k1, k2, k3⟩ := HGW.out.B.sl
          obtain ⟨bb, bo, rfl, _, _, k4⟩ := k3 (by simp)
          have hb0 : wc.cell? ⟨bb, bo, none⟩ = some (.int .u64 y) := by simpa using k4 0 (by simp)
          simp only [List.length_singleton] at b1 k1
          clear k2 k3 k4
          have HX := Lib.hid (And.intro hbz (And.intro HGW.out.x0 (And.intro (show 0 ≤ y by omega) hy1)))
          clear hbz hy0 hy1
          go_upto_region 24 with fail
          go_quiet (fail)
          go_wp2_with fail
          go_loopw [23, 24] (fun a b wx => ∃ x y n, a = .int .u64 x ∧ b = .int .u64 y ∧ Hid (wx = wc.drewN n) ∧ Hid (Bez x y ∧ (0 ≤ x ∧ x < 18446744073709551616) ∧ 0 ≤ y ∧ y < 18446744073709551616)) (fun _ b _ => (intOf b).toNat)
          case atStart => exact ⟨x, y, _, rfl, rfl, rfl, HX⟩
          case round =>
            obtain ⟨x1, y1, n, rfl, rfl, hwx, HX1⟩ := hrel
            have hwx' := hwx.out
            subst hwx'
            by_cases hz : y1 = 0
            · subst hz
              have hx1 : x1 = 1 := HX1.out.1.zero HX1.out.2.1.1
              subst hx1
              have HLow : Hid (Below w.heap.size w (((wc.drewN n).setCell ⟨rA, 0, none⟩ (.int .u64 1)))) := Lib.hid ((pw_below_drewN HGW.out.low _).setCell (by have := HGW.out.lA; have := HGW.out.A.gr; show _ ≤ rA; omega) _)
              have HSet := Lib.hid (intSet_c gA gz false false _ [1] ((wc.drewN n).setCell ⟨rA, 0, none⟩ (.int .u64 1)) (oi_one (HGW.out.A.drewN n) 1 (by omega) (by omega)).bi hne (by simp) ((HLow.out.block gz hgz).trans HZ.out))
              have hne2 : rA ≠ g := by have := HGW.out.lA; have := HGW.out.A.gr; omega
              clear hk
              go_wp2_with (go_at_call 132; with_reducible refine HSet.out.mono ?_; rintro e w5 ⟨rfl, ⟨u, hu⟩, hb5⟩; have HU := Lib.hid hu; have HB5 := Lib.hid hb5; clear hu hb5)
              go_ret
              exact ⟨rfl, ⟨_, HU.out⟩, (HLow.out.mono (Nat.le_of_lt hgz)).trans HB5.out⟩
            · have hy := HX1.out.2.2
              obtain ⟨z1, z2, z3, z4, z5⟩ := words_loop HX1.out.1 HX1.out.2.1 (by omega)
              have HZ2 : Hid (Bez y1 (x1 % y1) ∧ (0 ≤ y1 ∧ y1 < 18446744073709551616) ∧ 0 ≤ x1 % y1 ∧ x1 % y1 < 18446744073709551616) := Lib.hid ⟨z1, ⟨by omega, hy.2⟩, z2, by omega⟩
              have hyb : (y1 == 0) = false := by simp [hz]
              have hyn : (y1 != 0) = true := by simp [hz]
              have hlt2 : (x1 % y1).toNat < y1.toNat := by omega
              have HLT2 := Lib.hid hlt2
              clear z1 hz hlt2
              go_wp2_with fail
              go_quiet (fail)
              go_wp2_with fail
              exact ⟨⟨_, _, _, rfl, rfl, Lib.hid (drewN_two _ _ _), HZ2⟩, HLT2.out⟩
end Go.Proofs.YtkplnbjgkhmbcaaGreatDoor
