/- The walks of spec.Int: Of, Small, Cmp; laws.told, laws.whole. -/
import Derived.Test.YtkkmnglnnfmnaaaGreatDoorSpecNum
import Derived.Test.YtkkmnglnnfmnaaaGreatDoorBrg
import Derived.RegionTactic
import Derived.Laws.OwnMore
import Derived.Deep.QuietTactic
namespace Go.Proofs.YtkkmnglnnfmnaaaGreatDoor
open Go.RowKit Go.Proofs.YtkkmnglnnfmnaaaGreatDoorW.PrintWords Go.Proofs.YtkkmnglnnfmnaaaGreatDoorW.PrintLast Go.Proofs.YtkkmnglnnfmnaaaGreatDoorW.PrintMore Go.Proofs.YtkkmnglnnfmnaaaGreatDoor.PFnAsInt32
set_option linter.unusedVariables false
set_option linter.unusedSimpArgs false

theorem cut_c (B : Nat) (v : Value) (l : List Int) (w : World) (h : Sl .u8 B w v l) (hn : l.length < 140737488355328) :
    Calls Tryz.prog 15 #[v] w fun e w' => ∃ v', e = .returned v' ∧ Sl .u8 w.heap.size w' v' (cutL l) ∧ Below w.heap.size w w' := by
  obtain ⟨A, c, rfl, h1, hC⟩ := h.c
  refine (spec_cut.calls (l.length + 1) A c l _ w hC h1 (cut_is l _ hn (by omega))).mono ?_
  rintro e w' ⟨v', rfl, hr, hb⟩
  exact ⟨v', rfl, r_sl hr, hb⟩

theorem keep_cells {w w2 : World} {cs : Array Value} {t : TypeId} (hb : Below (w.heap.size + 1) (w.alloc (.cells cs t)) w2) :
    (∀ j v, cs[j]? = some v → w2.cell? ⟨w.heap.size, j, none⟩ = some v) ∧ (∀ j, w2.frozen? ⟨w.heap.size, j, none⟩ = false) ∧ w.heap.size < w2.heap.size := by
  refine ⟨fun j v hv => ?_, fun j => ?_, ?_⟩
  · rw [hb.cell (p := ⟨w.heap.size, j, none⟩) (by simp), World.cell?_alloc_mark]; exact hv
  · rw [hb.frozen (p := ⟨w.heap.size, j, none⟩) (by simp), World.frozen?_alloc_mark]; simp
  · have := hb.size; simp at this; omega

/-- The value of a spec.Int. -/
def SInt (B : Nat) (w : World) (v : Value) (n : Bool) (l : List Int) : Prop := ∃ s, v = .agg #[.bool n, s] ∧ Sl .u8 B w s l

theorem sint_sl {B : Nat} {w : World} {s : Value} {n : Bool} {l : List Int} (h : SInt B w (.agg #[.bool n, s]) n l) : Sl .u8 B w s l := by
  obtain ⟨s', e, h⟩ := h
  simp at e
  subst e
  exact h

set_option maxRecDepth 100000 in
theorem of_c (neg : Bool) (B : Nat) (v : Value) (l : List Int) (w : World) (h : Sl .u8 B w v l) (hn : l.length < 140737488355328) :
    Calls Tryz.prog 9 #[.bool neg, v] w fun e w' => ∃ v', e = .returned v' ∧ SInt w.heap.size w' v' (neg && decide (0 < (cutL l).length)) (cutL l) ∧ Below w.heap.size w w' := by
  have H := Lib.hid h
  clear h
  have hb0 : ∀ o, Below w.heap.size w (w.alloc o) := fun o => (Below.refl w.heap.size w).alloc (Nat.le_refl _) o
  cases neg
  all_goals
    go_enter Tryz.func9, Tryz.ntmps9
    go_wp2_with (go_at_call 15; refine (cut_c B v l _ (H.out.alloc _) hn).mono ?_; rintro e w1 ⟨v1, rfl, hs1, hb1⟩; have HS := Lib.hid hs1; have HB := Lib.hid hb1; obtain ⟨A1, c1, hv1, _⟩ := hs1.c; subst hv1; obtain ⟨hc1, hf1⟩ := bcell hb1; have hsz1 := hb1.size; clear hs1 hb1)
  all_goals
    refine bodyPost_ret (v := .agg #[.bool _, .slice A1 (cutL l).length c1]) (by simp [results, Tryz.results9, go_sem, hc1]) rfl ⟨_, rfl, ⟨_, rfl, ?_⟩, ?_⟩
    · exact ((HS.out.setCell (p := ⟨w.heap.size, 0, none⟩) _ (by simp)).setCell (p := ⟨w.heap.size, 1, none⟩) _ (by simp)).mono (by simp)
    · exact (((hb0 _).trans (HB.out.mono (by simp))).setCell (Nat.le_refl _) _).setCell (Nat.le_refl _) _

set_option maxRecDepth 100000 in
theorem bytesOf_c (u : Int) (w : World) : Calls Tryz.prog 12 #[.int .u64 u] w fun e w' => ∃ v', e = .returned v' ∧ Sl .u8 w.heap.size w' v' (bytes8 u) ∧ Below w.heap.size w w' := by
  refine (spec_bytesOf.calls 10 u _ w (bytesOf_is u 10 (by omega))).mono ?_
  rintro e w' ⟨v', rfl, hr, hb⟩
  exact ⟨v', rfl, r_sl hr, hb⟩

set_option maxRecDepth 100000 in
theorem small_c (n : Int) (w : World) (h0 : -9223372036854775808 ≤ n) (h1 : n ≤ 9223372036854775807) :
    Calls Tryz.prog 6 #[.int .i64 n] w fun e w' => ∃ v' m l, e = .returned v' ∧ SInt w.heap.size w' v' m l ∧ Good m l ∧ val m l = n ∧ l.length ≤ 8 ∧ Below w.heap.size w w' := by
  have hb8 : ∀ u, (bytes8 u).length = 8 := fun u => rfl
  have hb0 : ∀ o, Below w.heap.size w (w.alloc o) := fun o => (Below.refl w.heap.size w).alloc (Nat.le_refl _) o
  have key : ∀ (neg : Bool) (u : Int), 0 ≤ u → u < 18446744073709551616 → (neg = true → 0 < u) → n = (if neg then -u else u) → Good (neg && decide (0 < (cutL (bytes8 u)).length)) (cutL (bytes8 u)) ∧ val (neg && decide (0 < (cutL (bytes8 u)).length)) (cutL (bytes8 u)) = n ∧ (cutL (bytes8 u)).length ≤ 8 := by
    intro neg u hu0 hu1 hu2 hu3
    have hB := bytes8_bytes u hu0
    refine ⟨good_of _ _ hB (by rw [hb8]; omega), ?_, by have := cutL_length (bytes8 u); rw [hb8] at this; exact this⟩
    rw [val_of _ _ hB, hu3]
    unfold val
    rw [bytes8_num u hu0 hu1]
  by_cases hn : n < 0
  · obtain ⟨u, hu⟩ : ∃ u, IntKind.u64.wrap (-(IntKind.u64.wrap n)) = u := ⟨_, rfl⟩
    have hu2 : u = -n := by rw [← hu]; simp [IntKind.wrap, IntKind.signed, IntKind.bits]; omega
    have K := Lib.hid (key true u (by omega) (by omega) (fun h => by first | omega | cases h) (by simp; omega))
    have hnb : decide (n < 0) = true := by simpa using hn
    clear key hu2
    have HN := Lib.hid hn
    clear hn
    go_enter Tryz.func6, Tryz.ntmps6
    go_wp2_with (first | (go_at_call 12; refine (bytesOf_c _ _).mono ?_; rintro e w1 ⟨v1, rfl, hs1, hb1⟩; have HS := Lib.hid hs1; have HB := Lib.hid hb1; clear hs1 hb1) | (go_at_call 9; refine (of_c _ _ _ _ _ HS.out (by rw [hb8]; omega)).mono ?_; rintro e w2 ⟨v2, rfl, ⟨s2, rfl, hs2⟩, hb2⟩; obtain ⟨A2, c2, rfl, _⟩ := hs2.c; have HS2 := Lib.hid hs2; have HB2 := Lib.hid ((HB.out.trans (hb2.mono HB.out.size)).mono (by simp) : Below (w.heap.size + 1) _ _); obtain ⟨kc, kf, ks⟩ := keep_cells HB2.out; have k0 : w2.cell? ⟨w.heap.size, 0, none⟩ = some (.bool false) := kc 0 _ rfl; have k1 : w2.cell? ⟨w.heap.size, 1, none⟩ = some (.slice none 0 0) := kc 1 _ rfl; have f0 := kf 0; have f1 := kf 1; clear hs2 hb2 kc kf))
    have hsz := HB.out.size
    simp at hsz
    refine bodyPost_ret (v := .agg #[.bool _, .slice A2 (cutL (bytes8 u)).length c2]) (by simp [results, Tryz.results6, go_sem, k0, k1]) rfl ⟨_, _, _, rfl, ⟨_, rfl, ?_⟩, K.out.1, K.out.2.1, K.out.2.2, ?_⟩
    · exact ((HS2.out.setCell (p := ⟨w.heap.size, 0, none⟩) _ (by simp; omega)).setCell (p := ⟨w.heap.size, 1, none⟩) _ (by simp; omega)).mono (by omega)
    · exact (((hb0 _).trans (HB2.out.mono (by simp))).setCell (Nat.le_refl _) _).setCell (Nat.le_refl _) _
  · obtain ⟨u, hu⟩ : ∃ u, IntKind.u64.wrap (n) = u := ⟨_, rfl⟩
    have hu2 : u = n := by rw [← hu]; simp [IntKind.wrap, IntKind.signed, IntKind.bits]; omega
    have K := Lib.hid (key false u (by omega) (by omega) (fun h => by first | omega | cases h) (by simp; omega))
    have hnb : decide (n < 0) = false := by simpa using hn
    clear key hu2
    have HN := Lib.hid hn
    clear hn
    go_enter Tryz.func6, Tryz.ntmps6
    go_wp2_with (first | (go_at_call 12; refine (bytesOf_c _ _).mono ?_; rintro e w1 ⟨v1, rfl, hs1, hb1⟩; have HS := Lib.hid hs1; have HB := Lib.hid hb1; clear hs1 hb1) | (go_at_call 9; refine (of_c _ _ _ _ _ HS.out (by rw [hb8]; omega)).mono ?_; rintro e w2 ⟨v2, rfl, ⟨s2, rfl, hs2⟩, hb2⟩; obtain ⟨A2, c2, rfl, _⟩ := hs2.c; have HS2 := Lib.hid hs2; have HB2 := Lib.hid ((HB.out.trans (hb2.mono HB.out.size)).mono (by simp) : Below (w.heap.size + 1) _ _); obtain ⟨kc, kf, ks⟩ := keep_cells HB2.out; have k0 : w2.cell? ⟨w.heap.size, 0, none⟩ = some (.bool false) := kc 0 _ rfl; have k1 : w2.cell? ⟨w.heap.size, 1, none⟩ = some (.slice none 0 0) := kc 1 _ rfl; have f0 := kf 0; have f1 := kf 1; clear hs2 hb2 kc kf))
    have hsz := HB.out.size
    simp at hsz
    refine bodyPost_ret (v := .agg #[.bool _, .slice A2 (cutL (bytes8 u)).length c2]) (by simp [results, Tryz.results6, go_sem, k0, k1]) rfl ⟨_, _, _, rfl, ⟨_, rfl, ?_⟩, K.out.1, K.out.2.1, K.out.2.2, ?_⟩
    · exact ((HS2.out.setCell (p := ⟨w.heap.size, 0, none⟩) _ (by simp; omega)).setCell (p := ⟨w.heap.size, 1, none⟩) _ (by simp; omega)).mono (by omega)
    · exact (((hb0 _).trans (HB2.out.mono (by simp))).setCell (Nat.le_refl _) _).setCell (Nat.le_refl _) _

set_option maxRecDepth 100000 in
theorem sign_c (B : Nat) (v : Value) (n : Bool) (l : List Int) (w : World) (h : SInt B w v n l) (g : Good n l) :
    Calls Tryz.prog 10 #[v] w fun e w' => e = .returned (.int .i64 (sgn (val n l))) ∧ Below w.heap.size w w' := by
  obtain ⟨s, rfl, hs⟩ := h
  obtain ⟨A, c, rfl, h1, hC⟩ := hs.c
  exact spec_Int_Sign.calls n A c l _ w hC h1 (sign_is n l g)
set_option maxRecDepth 100000 in
theorem order_c (B1 B2 : Nat) (v1 v2 : Value) (a b : List Int) (w : World) (h1 : Sl .u8 B1 w v1 a) (h2 : Sl .u8 B2 w v2 b) (ga : Bytes a ∧ Lead a) (gb : Bytes b ∧ Lead b) (hn : a.length < 140737488355328) :
    Calls Tryz.prog 11 #[v1, v2] w fun e w' => e = .returned (.int .i64 (sgn (beN a - beN b))) ∧ Below w.heap.size w w' := by
  obtain ⟨A, c, rfl, h3, hC⟩ := h1.c
  obtain ⟨A2, c2, rfl, h4, hC2⟩ := h2.c
  refine (spec_order.calls (a.length + 1) A c a A2 c2 b _ w hC h3 hC2 h4 (order_is a b _ hn (by omega))).mono ?_
  rintro e w' ⟨rfl, nd, rfl⟩
  exact ⟨by rw [ordC_num a b ga.1 gb.1 ga.2 gb.2], by apply pw_below_drewN; exact Below.refl _ _⟩

theorem cmp_num (n1 n2 : Bool) (a b : List Int) (ga : Good n1 a) (gb : Good n2 b) :
    sgn (val n1 a - val n2 b) = if sgn (val n1 a) = sgn (val n2 b) then (if n1 then sgn (beN b - beN a) else sgn (beN a - beN b)) else if sgn (val n1 a) < sgn (val n2 b) then -1 else 1 := by
  have sa := ga.short
  have sb := gb.short
  by_cases hs : sgn (val n1 a) = sgn (val n2 b)
  · rw [if_pos hs]
    by_cases hn : n1 = true
    · subst hn
      rw [if_pos rfl]
      have ha : a ≠ [] := fun e => by have := ga.zero e; cases this
      have hp := ga.pos ha
      have h1 : val true a < 0 := by simp [val]; omega
      have h2 : val n2 b < 0 := by rw [← sgn_lt, ← hs, sgn_lt]; exact h1
      have h3 : n2 = true := by
        cases n2
        · have := (beN_bd b gb.bytes).1; simp [val] at h2; omega
        · rfl
      subst h3
      simp [val]
      congr 1; omega
    · have hn' : n1 = false := by simpa using hn
      subst hn'
      rw [if_neg (by simp)]
      have h1 : 0 ≤ val false a := by have := (beN_bd a ga.bytes).1; simpa [val] using this
      have h2 : 0 ≤ val n2 b := by
        have : ¬ sgn (val n2 b) < 0 := by rw [← hs, sgn_lt]; omega
        rw [sgn_lt] at this; omega
      have h3 : val n2 b = beN b := by
        cases n2
        · rfl
        · have hb : b ≠ [] := fun e => by have := gb.zero e; cases this
          have := gb.pos hb
          simp [val] at h2; omega
      rw [h3]
      rfl
  · rw [if_neg hs]
    have ca := sgn_vals (val n1 a)
    have cb := sgn_vals (val n2 b)
    have la := sgn_lt (val n1 a)
    have lb := sgn_lt (val n2 b)
    have ea := sgn_eq (val n1 a)
    have eb := sgn_eq (val n2 b)
    have pa := sgn_gt (val n1 a)
    have pb := sgn_gt (val n2 b)
    by_cases hlt : sgn (val n1 a) < sgn (val n2 b)
    · rw [if_pos hlt]
      have : val n1 a - val n2 b < 0 := by omega
      have := (sgn_lt _).2 this
      have := sgn_vals (val n1 a - val n2 b)
      omega
    · rw [if_neg hlt]
      have : 0 < val n1 a - val n2 b := by omega
      have := (sgn_gt _).2 this
      have := sgn_vals (val n1 a - val n2 b)
      omega

/-- Two boxes that stay as they are while the rest grows. -/
def Two (w0 : World) (B : Nat) (v1 v2 u1 u2 : Value) (w : World) : Prop :=
  w.cell? ⟨B, 0, none⟩ = some v1 ∧ w.cell? ⟨B, 1, none⟩ = some u1 ∧ w.cell? ⟨B + 1, 0, none⟩ = some v2 ∧ w.cell? ⟨B + 1, 1, none⟩ = some u2 ∧ B + 1 < w.heap.size ∧ Below B w0 w
theorem Two.below {w0 w w' : World} {B : Nat} {v1 v2 u1 u2 : Value} (h : Two w0 B v1 v2 u1 u2 w) (hb : Below w.heap.size w w') : Two w0 B v1 v2 u1 u2 w' := by
  obtain ⟨h1, h2, h3, h4, h5, h6⟩ := h
  refine ⟨?_, ?_, ?_, ?_, Nat.lt_of_lt_of_le h5 hb.size, h6.trans (hb.mono (by omega))⟩
  · rw [hb.cell (p := ⟨B, 0, none⟩) (by show B < _; omega)]; exact h1
  · rw [hb.cell (p := ⟨B, 1, none⟩) (by show B < _; omega)]; exact h2
  · rw [hb.cell (p := ⟨B + 1, 0, none⟩) (by show B + 1 < _; omega)]; exact h3
  · rw [hb.cell (p := ⟨B + 1, 1, none⟩) (by show B + 1 < _; omega)]; exact h4

theorem Two.drew {w0 w : World} {B : Nat} {v1 v2 u1 u2 : Value} (h : Two w0 B v1 v2 u1 u2 w) : Two w0 B v1 v2 u1 u2 w.drew :=
  ⟨h.1, h.2.1, h.2.2.1, h.2.2.2.1, h.2.2.2.2.1, h.2.2.2.2.2.drew⟩

set_option maxRecDepth 100000 in
set_option maxHeartbeats 4000000 in
theorem cmp_c (B1 B2 : Nat) (v1 v2 : Value) (n1 n2 : Bool) (a b : List Int) (w : World) (h1 : SInt B1 w v1 n1 a) (h2 : SInt B2 w v2 n2 b) (ga : Good n1 a) (gb : Good n2 b) :
    Calls Tryz.prog 5 #[v1, v2] w fun e w' => e = .returned (.int .i64 (sgn (val n1 a - val n2 b))) ∧ Below w.heap.size w w' := by
  obtain ⟨s1, rfl, hs1⟩ := h1
  obtain ⟨s2, rfl, hs2⟩ := h2
  have H1 := Lib.hid hs1
  have H2 := Lib.hid hs2
  obtain ⟨A1, c1, rfl, _⟩ := hs1.c
  obtain ⟨A2, c2, rfl, _⟩ := hs2.c
  clear hs1 hs2
  have HK := Lib.hid (cmp_num n1 n2 a b ga gb)
  obtain ⟨T, hT⟩ : ∃ T : World → Prop, T = Two w w.heap.size (.bool n1) (.bool n2) (.slice A1 a.length c1) (.slice A2 b.length c2) := ⟨_, rfl⟩
  have HT : Hid (T ((w.alloc (.cells #[.bool n1, .slice A1 a.length c1] 24)).alloc (.cells #[.bool n2, .slice A2 b.length c2] 24))) := by
    subst hT
    exact ⟨by go_simp, by go_simp, by go_simp, by go_simp, by simp, ((Below.refl _ _).alloc (Nat.le_refl _) _).alloc (by simp) _⟩
  have HTb : Hid (∀ u u', T u → Below u.heap.size u u' → T u') := by subst hT; exact fun _ _ h hb => h.below hb
  have HTd : Hid (∀ u, T u → T u.drew) := by subst hT; exact fun _ h => h.drew
  have HTf : Hid (∀ u, T u → Two w w.heap.size (.bool n1) (.bool n2) (.slice A1 a.length c1) (.slice A2 b.length c2) u) := by subst hT; exact fun _ h => h
  have HA1 : Hid (∀ u, T u → SInt B1 u (.agg #[.bool n1, .slice A1 a.length c1]) n1 a) := by subst hT; exact fun u h => ⟨_, rfl, H1.out.below h.2.2.2.2.2⟩
  have HA2 : Hid (∀ u, T u → SInt B2 u (.agg #[.bool n2, .slice A2 b.length c2]) n2 b) := by subst hT; exact fun u h => ⟨_, rfl, H2.out.below h.2.2.2.2.2⟩
  clear hT
  have HG : Hid (Good n1 a ∧ Good n2 b) := ⟨ga, gb⟩
  clear ga gb
  obtain ⟨x, hx⟩ : ∃ x, sgn (val n1 a) = x := ⟨_, rfl⟩
  obtain ⟨y, hy⟩ : ∃ y, sgn (val n2 b) = y := ⟨_, rfl⟩
  rw [hx, hy] at HK
  have HX := Lib.hid hx
  have HY := Lib.hid hy
  clear hx hy
  go_enter Tryz.func5, Tryz.ntmps5
  by_cases e : x = y
  · subst e
    have HK2 := HK.out
    rw [if_pos rfl] at HK2
    cases n1
    · simp only [Bool.false_eq_true, if_false, if_true] at HK2
      replace HK := Lib.hid HK2
      clear HK2
      go_wp2
      generalize (w.alloc (.cells #[.bool false, .slice A1 a.length c1] 24)).alloc (.cells #[.bool n2, .slice A2 b.length c2] 24) = wc at HT ⊢
      obtain ⟨t0, t1, t2, t3, t4, _⟩ := HTf.out _ HT.out
      go_region_with (first
        | (go_at_call_of 10 (Value.agg #[.bool false, .slice A1 a.length c1]); refine (sign_c B1 _ _ _ _ (by first | exact HA1.out _ HT.out | exact HA1.out _ (HTd.out _ HT.out)) HG.out.1).mono ?_; rintro e w1 ⟨rfl, hb⟩; rw [HX.out]; replace HT : Hid (T w1) := by first | exact HTb.out _ _ HT.out hb | exact HTb.out _ _ (HTd.out _ HT.out) hb
           clear hb t0 t1 t2 t3 t4; obtain ⟨t0, t1, t2, t3, t4, _⟩ := HTf.out _ HT.out)
        | (go_at_call_of 10 (Value.agg #[.bool n2, .slice A2 b.length c2]); refine (sign_c B2 _ _ _ _ (by first | exact HA2.out _ HT.out | exact HA2.out _ (HTd.out _ HT.out)) HG.out.2).mono ?_; rintro e w2 ⟨rfl, hb⟩; rw [HY.out]; replace HT : Hid (T w2) := by first | exact HTb.out _ _ HT.out hb | exact HTb.out _ _ (HTd.out _ HT.out) hb
           clear hb t0 t1 t2 t3 t4; obtain ⟨t0, t1, t2, t3, t4, _⟩ := HTf.out _ HT.out))
      all_goals go_wp2_with fail
      all_goals
        go_at_call 11
        refine (order_c B1 B2 _ _ a b _ (sint_sl (HA1.out _ HT.out)) (sint_sl (HA2.out _ HT.out)) ⟨HG.out.1.bytes, HG.out.1.lead⟩ ⟨HG.out.2.bytes, HG.out.2.lead⟩ (by have := HG.out.1.short; omega)).mono ?_
        rintro e w3 ⟨rfl, hb⟩
        replace HT : Hid (T w3) := HTb.out _ _ HT.out hb
        clear hb t0 t1 t2 t3 t4
        go_wp2
        go_ret
        exact ⟨by rw [HK.out]; rfl, (HTf.out _ HT.out).2.2.2.2.2⟩
    · simp only [Bool.false_eq_true, if_false, if_true] at HK2
      replace HK := Lib.hid HK2
      clear HK2
      go_wp2
      generalize (w.alloc (.cells #[.bool true, .slice A1 a.length c1] 24)).alloc (.cells #[.bool n2, .slice A2 b.length c2] 24) = wc at HT ⊢
      obtain ⟨t0, t1, t2, t3, t4, _⟩ := HTf.out _ HT.out
      go_region_with (first
        | (go_at_call_of 10 (Value.agg #[.bool true, .slice A1 a.length c1]); refine (sign_c B1 _ _ _ _ (by first | exact HA1.out _ HT.out | exact HA1.out _ (HTd.out _ HT.out)) HG.out.1).mono ?_; rintro e w1 ⟨rfl, hb⟩; rw [HX.out]; replace HT : Hid (T w1) := by first | exact HTb.out _ _ HT.out hb | exact HTb.out _ _ (HTd.out _ HT.out) hb
           clear hb t0 t1 t2 t3 t4; obtain ⟨t0, t1, t2, t3, t4, _⟩ := HTf.out _ HT.out)
        | (go_at_call_of 10 (Value.agg #[.bool n2, .slice A2 b.length c2]); refine (sign_c B2 _ _ _ _ (by first | exact HA2.out _ HT.out | exact HA2.out _ (HTd.out _ HT.out)) HG.out.2).mono ?_; rintro e w2 ⟨rfl, hb⟩; rw [HY.out]; replace HT : Hid (T w2) := by first | exact HTb.out _ _ HT.out hb | exact HTb.out _ _ (HTd.out _ HT.out) hb
           clear hb t0 t1 t2 t3 t4; obtain ⟨t0, t1, t2, t3, t4, _⟩ := HTf.out _ HT.out))
      all_goals go_wp2_with fail
      all_goals
        go_at_call 11
        refine (order_c B2 B1 _ _ b a _ (sint_sl (HA2.out _ HT.out)) (sint_sl (HA1.out _ HT.out)) ⟨HG.out.2.bytes, HG.out.2.lead⟩ ⟨HG.out.1.bytes, HG.out.1.lead⟩ (by have := HG.out.2.short; omega)).mono ?_
        rintro e w3 ⟨rfl, hb⟩
        replace HT : Hid (T w3) := HTb.out _ _ HT.out hb
        clear hb t0 t1 t2 t3 t4
        go_wp2
        go_ret
        exact ⟨by rw [HK.out]; rfl, (HTf.out _ HT.out).2.2.2.2.2⟩
  · by_cases hl : x < y
    · have hlb : decide (x < y) = true := by simpa using hl
      have HK2 := HK.out
      rw [if_neg e, if_pos hl] at HK2
      replace HK := Lib.hid HK2
      have heb : (x == y) = false := by simpa using e
      clear HK2 hl e
      go_wp2
      generalize (w.alloc (.cells #[.bool n1, .slice A1 a.length c1] 24)).alloc (.cells #[.bool n2, .slice A2 b.length c2] 24) = wc at HT ⊢
      obtain ⟨t0, t1, t2, t3, t4, _⟩ := HTf.out _ HT.out
      go_region_with (first
        | (go_at_call_of 10 (Value.agg #[.bool n1, .slice A1 a.length c1]); refine (sign_c B1 _ _ _ _ (by first | exact HA1.out _ HT.out | exact HA1.out _ (HTd.out _ HT.out)) HG.out.1).mono ?_; rintro e w1 ⟨rfl, hb⟩; rw [HX.out]; replace HT : Hid (T w1) := by first | exact HTb.out _ _ HT.out hb | exact HTb.out _ _ (HTd.out _ HT.out) hb
           clear hb t0 t1 t2 t3 t4; obtain ⟨t0, t1, t2, t3, t4, _⟩ := HTf.out _ HT.out)
        | (go_at_call_of 10 (Value.agg #[.bool n2, .slice A2 b.length c2]); refine (sign_c B2 _ _ _ _ (by first | exact HA2.out _ HT.out | exact HA2.out _ (HTd.out _ HT.out)) HG.out.2).mono ?_; rintro e w2 ⟨rfl, hb⟩; rw [HY.out]; replace HT : Hid (T w2) := by first | exact HTb.out _ _ HT.out hb | exact HTb.out _ _ (HTd.out _ HT.out) hb
           clear hb t0 t1 t2 t3 t4; obtain ⟨t0, t1, t2, t3, t4, _⟩ := HTf.out _ HT.out))
      all_goals go_wp2
      all_goals go_region_with (first
        | (go_at_call_of 10 (Value.agg #[.bool n1, .slice A1 a.length c1]); refine (sign_c B1 _ _ _ _ (by first | exact HA1.out _ HT.out | exact HA1.out _ (HTd.out _ HT.out)) HG.out.1).mono ?_; rintro e w1 ⟨rfl, hb⟩; rw [HX.out]; replace HT : Hid (T w1) := by first | exact HTb.out _ _ HT.out hb | exact HTb.out _ _ (HTd.out _ HT.out) hb
           clear hb t0 t1 t2 t3 t4; obtain ⟨t0, t1, t2, t3, t4, _⟩ := HTf.out _ HT.out)
        | (go_at_call_of 10 (Value.agg #[.bool n2, .slice A2 b.length c2]); refine (sign_c B2 _ _ _ _ (by first | exact HA2.out _ HT.out | exact HA2.out _ (HTd.out _ HT.out)) HG.out.2).mono ?_; rintro e w2 ⟨rfl, hb⟩; rw [HY.out]; replace HT : Hid (T w2) := by first | exact HTb.out _ _ HT.out hb | exact HTb.out _ _ (HTd.out _ HT.out) hb
           clear hb t0 t1 t2 t3 t4; obtain ⟨t0, t1, t2, t3, t4, _⟩ := HTf.out _ HT.out))
      all_goals go_wp2
      all_goals go_ret
      all_goals exact ⟨by rw [HK.out]; rfl, (HTf.out _ HT.out).2.2.2.2.2⟩
    · have hlb : decide (x < y) = false := by simpa using hl
      have HK2 := HK.out
      rw [if_neg e, if_neg hl] at HK2
      replace HK := Lib.hid HK2
      have heb : (x == y) = false := by simpa using e
      clear HK2 hl e
      go_wp2
      generalize (w.alloc (.cells #[.bool n1, .slice A1 a.length c1] 24)).alloc (.cells #[.bool n2, .slice A2 b.length c2] 24) = wc at HT ⊢
      obtain ⟨t0, t1, t2, t3, t4, _⟩ := HTf.out _ HT.out
      go_region_with (first
        | (go_at_call_of 10 (Value.agg #[.bool n1, .slice A1 a.length c1]); refine (sign_c B1 _ _ _ _ (by first | exact HA1.out _ HT.out | exact HA1.out _ (HTd.out _ HT.out)) HG.out.1).mono ?_; rintro e w1 ⟨rfl, hb⟩; rw [HX.out]; replace HT : Hid (T w1) := by first | exact HTb.out _ _ HT.out hb | exact HTb.out _ _ (HTd.out _ HT.out) hb
           clear hb t0 t1 t2 t3 t4; obtain ⟨t0, t1, t2, t3, t4, _⟩ := HTf.out _ HT.out)
        | (go_at_call_of 10 (Value.agg #[.bool n2, .slice A2 b.length c2]); refine (sign_c B2 _ _ _ _ (by first | exact HA2.out _ HT.out | exact HA2.out _ (HTd.out _ HT.out)) HG.out.2).mono ?_; rintro e w2 ⟨rfl, hb⟩; rw [HY.out]; replace HT : Hid (T w2) := by first | exact HTb.out _ _ HT.out hb | exact HTb.out _ _ (HTd.out _ HT.out) hb
           clear hb t0 t1 t2 t3 t4; obtain ⟨t0, t1, t2, t3, t4, _⟩ := HTf.out _ HT.out))
      all_goals go_wp2
      all_goals go_region_with (first
        | (go_at_call_of 10 (Value.agg #[.bool n1, .slice A1 a.length c1]); refine (sign_c B1 _ _ _ _ (by first | exact HA1.out _ HT.out | exact HA1.out _ (HTd.out _ HT.out)) HG.out.1).mono ?_; rintro e w1 ⟨rfl, hb⟩; rw [HX.out]; replace HT : Hid (T w1) := by first | exact HTb.out _ _ HT.out hb | exact HTb.out _ _ (HTd.out _ HT.out) hb
           clear hb t0 t1 t2 t3 t4; obtain ⟨t0, t1, t2, t3, t4, _⟩ := HTf.out _ HT.out)
        | (go_at_call_of 10 (Value.agg #[.bool n2, .slice A2 b.length c2]); refine (sign_c B2 _ _ _ _ (by first | exact HA2.out _ HT.out | exact HA2.out _ (HTd.out _ HT.out)) HG.out.2).mono ?_; rintro e w2 ⟨rfl, hb⟩; rw [HY.out]; replace HT : Hid (T w2) := by first | exact HTb.out _ _ HT.out hb | exact HTb.out _ _ (HTd.out _ HT.out) hb
           clear hb t0 t1 t2 t3 t4; obtain ⟨t0, t1, t2, t3, t4, _⟩ := HTf.out _ HT.out))
      all_goals go_wp2
      all_goals go_ret
      all_goals exact ⟨by rw [HK.out]; rfl, (HTf.out _ HT.out).2.2.2.2.2⟩
end Go.Proofs.YtkkmnglnnfmnaaaGreatDoor
