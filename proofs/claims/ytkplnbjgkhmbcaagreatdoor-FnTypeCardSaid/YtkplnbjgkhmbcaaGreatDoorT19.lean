/- ValA ValB ValC LawBase LawType -/
import Derived.Test.YtkplnbjgkhmbcaaGreatDoorT15
import Derived.Test.YtkplnbjgkhmbcaaGreatDoorT09
import Derived.Test.YtkplnbjgkhmbcaaGreatDoorT18
import Derived.Test.YtkplnbjgkhmbcaaGreatDoorT17
import Derived.Test.YtkplnbjgkhmbcaaGreatDoorT12
import Derived.Test.YtkplnbjgkhmbcaaGreatDoorT13
import Derived.Test.YtkplnbjgkhmbcaaGreatDoorT14
namespace Go.Proofs.YtkplnbjgkhmbcaaGreatDoor
open Go.RowKit Go.Shelf Go.Proofs.YtkplnbjgkhmbcaaGreatDoorW.PrintWords Go.Proofs.YtkplnbjgkhmbcaaGreatDoorW.PrintLast Go.Proofs.YtkplnbjgkhmbcaaGreatDoorW.PrintMore Go.Proofs.YtkplnbjgkhmbcaaGreatDoor.PFnCompare Go.Proofs.YtkplnbjgkhmbcaaGreatDoor.PCmp Go.Proofs.YtkplnbjgkhmbcaaGreatDoor.PbytesOf Go.Proofs.YtkplnbjgkhmbcaaGreatDoor.Pcmp
set_option linter.unusedVariables false
set_option linter.unusedSimpArgs false
structure VRow (w0 : World) (n M N : Nat) (xs : List VT) (us : List Value) (w : World) : Prop where
  low : Below w0.heap.size w0 w
  hM : w0.heap.size ≤ M
  lt : M < w.heap.size
  cl : ∀ i (h : i < us.length), w.cell? ⟨M, i, none⟩ = some us[i]
  sv : ∀ i (h : i < us.length) (h2 : i < xs.length), PV (M + 1) n w us[i] xs[i]
  room : ∀ i, i < N → (w.cell? ⟨M, i, none⟩).isSome = true ∧ w.frozen? ⟨M, i, none⟩ = false
theorem VRow.below {w0 w w' : World} {n M N : Nat} {xs : List VT} {us : List Value} (h : VRow w0 n M N xs us w) (hb : Below w.heap.size w w') : VRow w0 n M N xs us w' :=
  ⟨h.low.trans (hb.mono h.low.size), h.hM, Nat.lt_of_lt_of_le h.lt hb.size, fun i hi => (hb.cell (p := ⟨M, i, none⟩) h.lt).trans (h.cl i hi), fun i h1 h2 => (h.sv i h1 h2).below hb, fun i hi => ⟨by rw [hb.cell (p := ⟨M, i, none⟩) h.lt]; exact (h.room i hi).1, (hb.frozen (p := ⟨M, i, none⟩) h.lt).trans (h.room i hi).2⟩⟩
theorem vrow_start (w : World) (n N : Nat) (xs : List VT) (e : TypeId) : VRow w n w.heap.size N xs [] (w.alloc (.cells (madeCells #[.nilIface] N) e)) := by
  have h := so_start w N e
  exact ⟨h.low, h.hM, h.lt, (fun i h => absurd h (Nat.not_lt_zero _)), (fun i h => absurd h (Nat.not_lt_zero _)), h.room⟩
theorem VRow.push {w0 w : World} {n M N : Nat} {xs : List VT} {us : List Value} {u : Value} (h : VRow w0 n M N xs us w) (hk : us.length < N) (hx : us.length < xs.length) (hs : PV (M + 1) n w u xs[us.length]) : VRow w0 n M N xs (us ++ [u]) (w.setCell ⟨M, us.length, none⟩ u) := by
  have hcl : ∀ i (h1 : i < (us ++ [u]).length), (w.setCell ⟨M, us.length, none⟩ u).cell? ⟨M, i, none⟩ = some (us ++ [u])[i] := by
    intro i h1
    simp at h1
    by_cases hi : i < us.length
    · rw [World.cell?_setCell_other (h := by intro e; injection e with _ e; omega), h.cl i hi, List.getElem_append_left hi]
    · have : i = us.length := by omega
      subst this
      obtain ⟨x, hx⟩ := Option.isSome_iff_exists.1 (h.room us.length hk).1
      rw [World.cell?_setCell_same (h := hx)]; simp
  refine ⟨h.low.setCell (p := ⟨M, us.length, none⟩) h.hM _, h.hM, by simpa [World.setCell] using h.lt, hcl, ?_, ?_⟩
  · intro i h1 h2
    simp at h1
    by_cases hi : i < us.length
    · rw [List.getElem_append_left hi]
      exact (h.sv i hi h2).setCell (p := ⟨M, us.length, none⟩) _ (Nat.lt_succ_self M)
    · have e : i = us.length := by omega
      subst e
      have e2 : (us ++ [u])[us.length] = u := by simp
      rw [e2]
      exact hs.setCell (p := ⟨M, us.length, none⟩) _ (Nat.lt_succ_self M)
  · intro i hi
    refine ⟨?_, by rw [World.frozen?_setCell]; exact (h.room i hi).2⟩
    by_cases he : i = us.length
    · subst he
      rw [hcl us.length (by simp)]; rfl
    · rw [World.cell?_setCell_other (h := by intro e; injection e with _ e; omega)]
      exact (h.room i hi).1
theorem VRow.rowV {w0 w : World} {n M N : Nat} {xs : List VT} {us : List Value} (h : VRow w0 n M N xs us w) (hl : us.length = xs.length) : RowV w0.heap.size w (PV w0.heap.size n w) (.slice (some ⟨M, 0, none⟩) xs.length xs.length) xs :=
  ⟨some ⟨M, 0, none⟩, us.length, us, by rw [hl], Nat.le_refl _, hl, fun _ => ⟨M, 0, rfl, h.hM, fun i hi => by rw [Nat.zero_add]; exact h.cl i hi⟩, fun i h1 h2 => PV.lower (Nat.le_trans h.hM (Nat.le_succ M)) (h.sv i h1 h2)⟩
set_option maxRecDepth 100000 in
set_option maxHeartbeats 1000000 in
theorem values_c (n : Nat) (A : Option Addr) (c : Nat) (xs : List VT) (w : World) (h : kV.C w A xs.length xs) (hn : xs.length ≤ 1000)
    (hV : ∀ i (hi : i < xs.length) u W, Below w.heap.size w W → VR W u xs[i] → Calls Tryz.prog 27 #[u] W fun e W' => ∃ v, e = .returned (.tuple #[v, .bool true]) ∧ PV W.heap.size n W' v xs[i] ∧ Below W.heap.size W W') :
    Calls Tryz.prog 55 #[.slice A xs.length c] w fun e w' => ∃ us, us.length = xs.length ∧ e = .returned (.tuple #[.slice (some ⟨w.heap.size, 0, none⟩) xs.length xs.length, .bool true]) ∧ VRow w n w.heap.size xs.length xs us w' := by
  obtain ⟨i0, hi0, hz0, hz1, hz2⟩ := info_parts valInfo
  have hmk := run_make (P := Tryz.prog) w 94 57 i0 .nilIface Tryz.underlying94 hi0 hz0 .i64 .i64 0 xs.length (by omega) (by omega) (by rw [hz2]; omega) (by omega)
  simp only [hz1, Nat.mul_one, Int.toNat_natCast, Int.toNat_zero] at hmk
  have hcl : (Value.nilIface).cells = #[.nilIface] := rfl
  rw [hcl] at hmk
  have HS0 := Lib.hid (vrow_start w n xs.length xs 57)
  have HK := Lib.hid (fun i hi => kid_at h i hi rfl)
  have HV := Lib.hid hV
  clear hcl hz0 hz1 hz2 hi0 h hV
  go_enter Tryz.func55, Tryz.ntmps55
  go_wp2_with fail
  clear hmk
  go_loopw [4, 14] (fun out i wr => ∃ (j : Nat) (us : List Value), j ≤ xs.length ∧ i = .int .i64 (j : Int) ∧ us.length = j ∧ out = .slice (some ⟨w.heap.size, 0, none⟩) j xs.length ∧ Hid (VRow w n w.heap.size xs.length xs us wr)) (fun _ i _ => xs.length - (intOf i).toNat)
  case atStart => exact ⟨0, [], Nat.zero_le _, rfl, rfl, rfl, HS0⟩
  case round =>
    obtain ⟨j, us, hj, rfl, hu, rfl, HS⟩ := hrel
    by_cases hlt : j < xs.length
    · obtain ⟨b, o, A2, c2, A5, c5, rfl, hb, k0, k1, k2, k3, k4, k5, hVR⟩ := HK.out j hlt
      have hB := HS.out.low
      have x0 := (hB.cell (p := ⟨b, o + j * 6, none⟩) hb).trans k0
      have x1 := (hB.cell (p := ⟨b, o + j * 6 + 1, none⟩) hb).trans k1
      have x2 := (hB.cell (p := ⟨b, o + j * 6 + 2, none⟩) hb).trans k2
      have x3 := (hB.cell (p := ⟨b, o + j * 6 + 3, none⟩) hb).trans k3
      have x4 := (hB.cell (p := ⟨b, o + j * 6 + 4, none⟩) hb).trans k4
      have x5 := (hB.cell (p := ⟨b, o + j * 6 + 5, none⟩) hb).trans k5
      have HSc := Lib.hid (fun W (hW : Below w.heap.size w W) => HV.out j hlt _ W hW (hVR.below hW))
      have HB0 : Hid (∀ o, Below w.heap.size w (wr.alloc o)) := Lib.hid fun o => hB.alloc hB.size o
      have HBr : Hid (∀ o, Below wr.heap.size wr (wr.alloc o)) := Lib.hid fun o => (Below.refl _ wr).alloc (Nat.le_refl _) o
      clear k0 k1 k2 k3 k4 k5 hVR hB
      have hMr := HS.out.lt
      have hrm := HS.out.room j hlt
      go_wp2_with (first | (at_builtin; refine wpList_append_run rfl _ _ _ rfl _ _ _ rfl rfl happ.out ?_) | (go_at_call 27; (with_reducible refine (HSc.out _ (HB0.out _)).mono ?_); rintro e w3 ⟨u, rfl, hsv, hb3⟩; obtain ⟨T, x, rfl⟩ := hsv.iface; have HVV := Lib.hid (PV.lower (Nat.lt_of_lt_of_le hMr (HBr.out _).size) hsv); have HB3 := Lib.hid ((HBr.out _).trans (hb3.mono (HBr.out _).size)); have happ := Lib.hid (app_one w3 w.heap.size j xs.length T x hlt (Nat.lt_of_lt_of_le hMr HB3.out.size) ⟨by rw [HB3.out.cell (p := ⟨w.heap.size, j, none⟩) hMr]; exact hrm.1, (HB3.out.frozen (p := ⟨w.heap.size, j, none⟩) hMr).trans hrm.2⟩); clear hsv hb3))
      go_roundw
      case rel =>
        subst hu
        have hq := ((HS.out.below HB3.out).below ((Below.refl _ _).alloc (Nat.le_refl _) (.cells #[.iface T x] 57))).push hlt hlt (HVV.out.below ((Below.refl _ _).alloc (Nat.le_refl _) (.cells #[.iface T x] 57)))
        exact ⟨us.length + 1, us ++ [.iface T x], by omega, by go_num, by simp, rfl, Lib.hid hq⟩
      case measure => simp [intOf]; omega
    · have hje : j = xs.length := by omega
      subst hje
      go_wp2
      go_ret2
      exact ⟨us, hu, rfl, HS.out⟩
theorem setKey_c (g : Nat) (es : List HEnt) (TK TV : TypeId) (kx vx : Value) (h : Int) (w0 w : World) (hg : w0.heap.size ≤ g) (hb0 : Below w0.heap.size w0 w) (ht : HTab w g 183 (!es.isEmpty) es 0) (hk : es.length < 8)
    (hH : HashC w0 (.iface TK kx) h) (hI : ∀ j (hj : j < es.length), (∃ T x, es[j].k = .iface T x) ∧ ¬ es[j].h = 0)
    (hE : ∀ j (hj : j < es.length), es[j].h = (if h = 0 then 1 else h) → ∀ W, Below w0.heap.size w0 W → Calls Tryz.prog 121 #[.iface TK kx, es[j].k] W fun e W' => e = .returned (.tuple #[.bool false, .nilIface]) ∧ Below W.heap.size W W') :
    Calls Tryz.prog 93 #[.pointer (some ⟨g, 0, none⟩), .iface TK kx, .iface TV vx] w fun e w' => e = .returned .nilIface ∧ HTab w' g 183 true (es ++ [⟨if h = 0 then 1 else h, .iface TK kx, .iface TV vx⟩]) 0 ∧ Below g w w' := by
  have HI := Lib.hid (insert_c g 183 es TK TV kx vx h w0 w hg hb0 ht hk hH hI hE)
  have c0 := ht.c0
  obtain ⟨hh, hhh⟩ : ∃ hh, (if h = 0 then 1 else h) = hh := ⟨_, rfl⟩
  rw [hhh] at HI ⊢
  clear hb0 ht hH hI hE hk hhh
  go_enter Tryz.func93, Tryz.ntmps93
  go_wp2_with (go_at_call 131; (with_reducible refine HI.out.mono ?_); rintro e w1 ⟨rfl, h1, hb1⟩; have HE := Lib.hid (And.intro h1 hb1); clear h1 hb1)
  go_ret
  exact ⟨rfl, HE.out⟩
theorem setInsert_c (g : Nat) (es : List HEnt) (TK : TypeId) (kx : Value) (h : Int) (w0 w : World) (hg : w0.heap.size ≤ g) (hb0 : Below w0.heap.size w0 w) (ht : HTab w g 185 (!es.isEmpty) es 0) (hk : es.length < 8)
    (hH : HashC w0 (.iface TK kx) h) (hI : ∀ j (hj : j < es.length), (∃ T x, es[j].k = .iface T x) ∧ ¬ es[j].h = 0)
    (hE : ∀ j (hj : j < es.length), es[j].h = (if h = 0 then 1 else h) → ∀ W, Below w0.heap.size w0 W → Calls Tryz.prog 121 #[.iface TK kx, es[j].k] W fun e W' => e = .returned (.tuple #[.bool false, .nilIface]) ∧ Below W.heap.size W W') :
    Calls Tryz.prog 95 #[.pointer (some ⟨g, 0, none⟩), .iface TK kx] w fun e w' => e = .returned .nilIface ∧ HTab w' g 185 true (es ++ [⟨if h = 0 then 1 else h, .iface TK kx, .iface 137 (.int .u8 0)⟩]) 0 ∧ Below g w w' := by
  have HI := Lib.hid (insert_c g 185 es TK 137 kx (.int .u8 0) h w0 w hg hb0 ht hk hH hI hE)
  have c0 := ht.c0
  obtain ⟨hh, hhh⟩ : ∃ hh, (if h = 0 then 1 else h) = hh := ⟨_, rfl⟩
  rw [hhh] at HI ⊢
  clear hb0 ht hH hI hE hk hhh
  go_enter Tryz.func95, Tryz.ntmps95
  go_wp2_with (go_at_call 131; (with_reducible refine HI.out.mono ?_); rintro e w1 ⟨rfl, h1, hb1⟩; have HE := Lib.hid (And.intro h1 hb1); clear h1 hb1)
  go_ret
  exact ⟨rfl, HE.out⟩
theorem dictLen_c (g : Nat) (tab : Bool) (es : List HEnt) (it : Int) (w : World) (ht : HTab w g 183 tab es it) (hk : es.length ≤ 8) : Calls Tryz.prog 94 #[.pointer (some ⟨g, 0, none⟩)] w fun e w' => e = .returned (.int .i64 es.length) ∧ w' = w := by
  have c42 := ht.c42
  clear ht
  go_enter Tryz.func94, Tryz.ntmps94
  go_wp2
  go_ret
  exact ⟨rfl, rfl⟩
theorem setLen_c (g : Nat) (tab : Bool) (es : List HEnt) (it : Int) (w : World) (ht : HTab w g 185 tab es it) (hk : es.length ≤ 8) : Calls Tryz.prog 96 #[.pointer (some ⟨g, 0, none⟩)] w fun e w' => e = .returned (.int .i64 es.length) ∧ w' = w := by
  have c42 := ht.c42
  clear ht
  go_enter Tryz.func96, Tryz.ntmps96
  go_wp2
  go_ret
  exact ⟨rfl, rfl⟩
theorem hkey_ne (y : VT) : ¬ hkey y = 0 := by
  unfold hkey
  split
  · decide
  · assumption
structure Ents (xs : List VT) (us : List Value) (es : List HEnt) : Prop where
  k : ∀ i (h : i < es.length) (h1 : i * 2 < us.length), es[i].k = us[i * 2]
  v : ∀ i (h : i < es.length) (h1 : i * 2 + 1 < us.length), es[i].v = us[i * 2 + 1]
  h : ∀ i (h : i < es.length) (h1 : i * 2 < xs.length), es[i].h = hkey xs[i * 2]
theorem Ents.nil (xs : List VT) (us : List Value) : Ents xs us [] := ⟨fun i h => absurd h (Nat.not_lt_zero _), fun i h => absurd h (Nat.not_lt_zero _), fun i h => absurd h (Nat.not_lt_zero _)⟩
theorem Ents.push {xs : List VT} {us : List Value} {es : List HEnt} (h : Ents xs us es) (e : HEnt) (hk : ∀ (h1 : es.length * 2 < us.length), e.k = us[es.length * 2]) (hv : ∀ (h1 : es.length * 2 + 1 < us.length), e.v = us[es.length * 2 + 1]) (hh : ∀ (h1 : es.length * 2 < xs.length), e.h = hkey xs[es.length * 2]) : Ents xs us (es ++ [e]) := by
  refine ⟨fun i hi h1 => ?_, fun i hi h1 => ?_, fun i hi h1 => ?_⟩
  all_goals
    have hi' : i < es.length + 1 := by simpa using hi
    by_cases hlt : i < es.length
  · rw [List.getElem_append_left hlt]; exact h.k i hlt h1
  · have e2 : i = es.length := by omega
    subst e2
    rw [List.getElem_append_right (Nat.le_refl _)]
    simpa using hk h1
  · rw [List.getElem_append_left hlt]; exact h.v i hlt h1
  · have e2 : i = es.length := by omega
    subst e2
    rw [List.getElem_append_right (Nat.le_refl _)]
    simpa using hv h1
  · rw [List.getElem_append_left hlt]; exact h.h i hlt h1
  · have e2 : i = es.length := by omega
    subst e2
    rw [List.getElem_append_right (Nat.le_refl _)]
    simpa using hh h1
def EntS (xs : List VT) (us : List Value) (es : List HEnt) : Prop := ∀ i (h : i < es.length) (h1 : i < us.length) (h2 : i < xs.length), es[i].k = us[i] ∧ es[i].v = .iface 137 (.int .u8 0) ∧ es[i].h = hkey xs[i]
theorem isEmpty_push (es : List HEnt) (e : HEnt) : (!(es ++ [e]).isEmpty) = true := by cases es <;> rfl
theorem key_new {n B : Nat} {w0 : World} {us : List Value} {xs : List VT} {es : List HEnt} {step : Nat} (hs : 0 < step) (hl : us.length = xs.length) (hn : n ≤ 8) (hT : Thr w0) (hL : Lim w0)
    (hP : ∀ i (h1 : i < us.length) (h2 : i < xs.length), PV B n w0 us[i] xs[i]) (hc : ∀ i (h : i * step < xs.length), HC n xs[i * step]) (hd : Dist step xs)
    (hk : ∀ i (h : i < es.length) (h1 : i * step < us.length), es[i].k = us[i * step]) (hj : es.length * step < xs.length) :
    ∀ j (hj2 : j < es.length) (hu : es.length * step < us.length), ∀ W, Below w0.heap.size w0 W → Calls Tryz.prog 121 #[us[es.length * step], es[j].k] W fun e W' => e = .returned (.tuple #[.bool false, .nilIface]) ∧ Below W.heap.size W W' := by
  intro j hj2 hu W hW
  have hjs : j * step < es.length * step := Nat.mul_lt_mul_of_pos_right hj2 hs
  have hju : j * step < us.length := by omega
  have hjx : j * step < xs.length := by omega
  rw [hk j hj2 hju]
  have hf : eqV 9 xs[es.length * step] xs[j * step] = false := by
    rw [eqV_symm 9 n n _ _ (hc _ hj) (hc _ hjx)]
    exact hd j es.length hj hj2
  rw [← hf]
  exact equalHC_c n n B B _ _ _ _ W ((hP _ hu hj).below hW) ((hP _ hju hjx).below hW) (hc _ hj) (hc _ hjx) hn (hT.below hW) (hL.below hW)
set_option maxRecDepth 100000 in
set_option maxHeartbeats 1000000 in
theorem dict_c (n B : Nat) (A : Option Addr) (c : Nat) (us : List Value) (xs : List VT) (w : World) (hl : us.length = xs.length) (hrow : RowC w A us) (hn : n ≤ 8) (hT : Thr w) (hL : Lim w)
    (hP : ∀ i (h1 : i < us.length) (h2 : i < xs.length), PV B n w us[i] xs[i]) (hc : ∀ i (h : i * 2 < xs.length), HC n xs[i * 2]) (hd : Dist 2 xs) (he : xs.length % 2 = 0) (hm : xs.length ≤ 16) :
    Calls Tryz.prog 57 #[.slice A us.length c] w fun e w' => e = .returned (.tuple #[.pointer (some ⟨w.heap.size, 0, none⟩), .bool true]) ∧ ∃ es, HTab w' w.heap.size 183 (!es.isEmpty) es 0 ∧ xs.length = es.length * 2 ∧ Ents xs us es ∧ Below w.heap.size w w' := by
  have HN := Lib.hid (fun es hk hj => key_new (n := n) (B := B) (w0 := w) (us := us) (xs := xs) (es := es) (step := 2) (by decide) hl hn hT hL hP hc hd hk hj)
  have HH := Lib.hid (fun i (h1 : i * 2 < us.length) (h2 : i * 2 < xs.length) => hashC_tree n B w us[i * 2] xs[i * 2] (hP _ h1 h2) (hc i h2) hn)
  have HI := Lib.hid (fun i (h1 : i < us.length) => (hP i h1 (by omega)).iface)
  have HR := Lib.hid hrow
  have hu16 : us.length ≤ 16 := by omega
  have heu : Hid (us.length % 2 = 0) := Lib.hid (by omega)
  have HL := Lib.hid hl
  have HT0 : Hid (HTab (w.alloc (.cells zeroHT 183)) w.heap.size 183 (!(List.nil : List HEnt).isEmpty) [] 0) := Lib.hid (ht_new w _)
  have HB0 : Hid (Below w.heap.size w (w.alloc (.cells zeroHT 183))) := Lib.hid ((Below.refl _ w).alloc (Nat.le_refl _) _)
  clear hP hc hd hrow hT hL hn he hm hl
  go_enter Tryz.func57, Tryz.ntmps57
  go_wp2_with fail
  go_loopw [5] (fun i wr => ∃ (j i0 : Nat) (es : List HEnt), i0 ≤ us.length ∧ i = .int .i64 (i0 : Int) ∧ Hid (i0 = j * 2) ∧ Hid (es.length = j) ∧ Hid (Ents xs us es) ∧ Hid (HTab wr w.heap.size 183 (!es.isEmpty) es 0) ∧ Hid (Below w.heap.size w wr)) (fun i _ => us.length - (intOf i).toNat)
  case atStart => exact ⟨0, 0, [], Nat.zero_le _, rfl, Lib.hid rfl, Lib.hid rfl, Lib.hid (Ents.nil _ _), HT0, HB0⟩
  case round =>
    clear HT0 HB0
    obtain ⟨j, i0, es, hi0, rfl, HJ, HE, HQ, HT, HB⟩ := hrel
    by_cases hlt : i0 + 1 < us.length
    · obtain ⟨i1, hi1⟩ : ∃ i1, i1 = i0 + 1 := ⟨_, rfl⟩
      have HI1 := Lib.hid hi1
      have l0 : i0 < us.length := by omega
      have l1 : i1 < us.length := by omega
      obtain ⟨M, o, rfl, hcell⟩ := HR.out (fun e => by rw [e] at l0; simp at l0)
      obtain ⟨T0, x0, e0⟩ := HI.out i0 l0
      obtain ⟨T1, x1, e1⟩ := HI.out i1 l1
      have q0 := (HB.out.cell (p := ⟨M, o + i0, none⟩) (lt_of_cell (hcell i0 l0))).trans (hcell i0 l0)
      have q1 := (HB.out.cell (p := ⟨M, o + i1, none⟩) (lt_of_cell (hcell i1 l1))).trans (hcell i1 l1)
      rw [e0] at q0
      rw [e1] at q1
      have he1 : (i0 : Int) + 1 = (i1 : Int) := by omega
      have he3 : IntKind.i64.wrap (i1 : Int) = (i1 : Int) := IntWalk.i64_in _ (by omega)
      have he5 : IntKind.i64.wrap ((i0 : Int) + 1) = (i1 : Int) := by rw [he1]; exact he3
      have hjx : j * 2 < xs.length := by have := HJ.out; have := HL.out; omega
      have hju : j * 2 < us.length := by have := HJ.out; omega
      have hel : es.length = j := HE.out
      have HS : Hid (Calls Tryz.prog 93 #[.pointer (some ⟨w.heap.size, 0, none⟩), .iface T0 x0, .iface T1 x1] wr.drew fun e w' => e = .returned .nilIface ∧ HTab w' w.heap.size 183 true (es ++ [⟨hkey xs[j * 2], .iface T0 x0, .iface T1 x1⟩]) 0 ∧ Below w.heap.size wr.drew w') := by
        have ei : i0 = j * 2 := HJ.out
        subst ei
        subst hel
        have hh := HH.out es.length hju hjx
        have hnew := HN.out es (fun i h h1 => HQ.out.k i h h1) hjx
        rw [e0] at hh
        refine Lib.hid ((setKey_c w.heap.size es T0 T1 x0 x1 (hT xs[es.length * 2]) w wr.drew (Nat.le_refl _) HB.out.drew HT.out (by omega) hh (fun q hq => ⟨?_, ?_⟩) (fun q hq _ W hW => ?_)))
        · rw [HQ.out.k q hq (by omega)]
          exact HI.out _ (by omega)
        · rw [HQ.out.h q hq (by omega)]
          exact hkey_ne _
        · have := hnew q hq hju W hW
          rw [e0] at this
          exact this
      have hlt' : i1 < us.length := l1
      have HCL : Hid (∀ W, Below w.heap.size w W → W.cell? ⟨M, o + i0, none⟩ = some (.iface T0 x0) ∧ W.cell? ⟨M, o + i1, none⟩ = some (.iface T1 x1)) := Lib.hid fun W hW => ⟨by rw [hW.cell (p := ⟨M, o + i0, none⟩) (lt_of_cell (hcell i0 l0)), hcell i0 l0, e0], by rw [hW.cell (p := ⟨M, o + i1, none⟩) (lt_of_cell (hcell i1 l1)), hcell i1 l1, e1]⟩
      have HPU : Hid (Ents xs us (es ++ [⟨hkey xs[j * 2], .iface T0 x0, .iface T1 x1⟩])) := by
        have ei : i0 = j * 2 := HJ.out
        subst ei
        subst hel
        refine Lib.hid (HQ.out.push _ (fun _ => e0.symm) (fun h1 => ?_) (fun _ => rfl))
        have ei1 : i1 = es.length * 2 + 1 := hi1
        subst ei1
        exact e1.symm
      clear hcell e0 e1 hi1
      go_upto_region 5 with fail
      go_region_held3 (fun W => W.cell? ⟨M, o + i0, none⟩ = some (.iface T0 x0) ∧ W.cell? ⟨M, o + i1, none⟩ = some (.iface T1 x1)) (first | (with_reducible exact ⟨q0, q1⟩) | exact HCL.out _ HB.out.drew | exact HCL.out _ HB.out) (first | (go_at_call 93; (with_reducible refine HS.out.mono ?_); rintro e w1 ⟨rfl, h1, hb1⟩; have HT1 := Lib.hid h1; (replace HB : Hid (Below w.heap.size w w1) := Lib.hid (HB.out.drew.trans hb1)); clear h1 hb1))
      go_wp2
      go_roundw
      case rel =>
        refine ⟨j + 1, i1 + 1, es ++ [⟨hkey xs[j * 2], .iface T0 x0, .iface T1 x1⟩], by omega, by go_num, Lib.hid (by have := HJ.out; have := HI1.out; omega), Lib.hid (by simp [hel]), HPU, ?_, HB⟩
        rw [isEmpty_push]
        exact HT1
      case measure => simp [intOf]; omega
    · have hend : Hid (i0 = us.length) := Lib.hid (by have := HJ.out; have := heu.out; omega)
      have HLEN := Lib.hid (fun W' (hW : W' = wr) => dictLen_c w.heap.size _ es 0 wr HT.out (by have := HE.out; have := HJ.out; omega))
      have hel : es.length = j := HE.out
      have HE2 : Hid (us.length = es.length * 2) := Lib.hid (by have := HJ.out; have := hend.out; omega)
      obtain ⟨L, hL2⟩ : ∃ L, us.length = L := ⟨_, rfl⟩
      have hfin : Hid ((wrap64 (2 * (j : Int)) == (us.length : Int)) = true) := Lib.hid (by
        have h1 := HJ.out
        have h2 := hend.out
        rw [wrap_in _ (by omega) (by omega)]
        simp
        omega)
      have hlt' : ¬ ((i0 : Int) + 1 < us.length) := by omega
      have he5 : IntKind.i64.wrap ((i0 : Int) + 1) = (i0 : Int) + 1 := IntWalk.i64_in _ (by omega)
      clear hL2
      go_wp2_with (go_at_call 94; (with_reducible refine (HLEN.out _ rfl).mono ?_); rintro e w1 ⟨rfl, hw1⟩; have HW := Lib.hid hw1; clear hw1)
      go_ret2
      exact ⟨congrArg (fun b => Ending.returned (.tuple #[.pointer (some ⟨w.heap.size, 0, none⟩), .bool b])) hfin.out, es, by rw [HW.out]; exact HT.out, by have := HL.out; have := HE2.out; omega, HQ.out, by rw [HW.out]; exact HB.out⟩
set_option maxRecDepth 100000 in
set_option maxHeartbeats 1000000 in
theorem set_c (n B : Nat) (A : Option Addr) (c : Nat) (us : List Value) (xs : List VT) (w : World) (hl : us.length = xs.length) (hrow : RowC w A us) (hn : n ≤ 8) (hT : Thr w) (hL : Lim w)
    (hP : ∀ i (h1 : i < us.length) (h2 : i < xs.length), PV B n w us[i] xs[i]) (hc : ∀ i (h : i < xs.length), HC n xs[i]) (hd : Dist 1 xs) (hm : xs.length ≤ 8) :
    Calls Tryz.prog 58 #[.slice A us.length c] w fun e w' => e = .returned (.tuple #[.pointer (some ⟨w.heap.size, 0, none⟩), .bool true]) ∧ ∃ es, HTab w' w.heap.size 185 (!es.isEmpty) es 0 ∧ xs.length = es.length ∧ EntS xs us es ∧ Below w.heap.size w w' := by
  have HN := Lib.hid (fun es hk hj => key_new (n := n) (B := B) (w0 := w) (us := us) (xs := xs) (es := es) (step := 1) (by decide) hl hn hT hL hP (fun i h => hc (i * 1) h) hd hk hj)
  have HH := Lib.hid (fun i (h1 : i < us.length) (h2 : i < xs.length) => hashC_tree n B w us[i] xs[i] (hP _ h1 h2) (hc i h2) hn)
  have HI := Lib.hid (fun i (h1 : i < us.length) => (hP i h1 (by omega)).iface)
  have HR := Lib.hid hrow
  have hu8 : us.length ≤ 8 := by omega
  have HL := Lib.hid hl
  have HT0 : Hid (HTab (w.alloc (.cells zeroHT 185)) w.heap.size 185 (!(List.nil : List HEnt).isEmpty) [] 0) := Lib.hid (ht_new w _)
  have HB0 : Hid (Below w.heap.size w (w.alloc (.cells zeroHT 185))) := Lib.hid ((Below.refl _ w).alloc (Nat.le_refl _) _)
  clear hP hc hd hrow hT hL hn hm hl
  go_enter Tryz.func58, Tryz.ntmps58
  go_wp2_with fail
  go_loopw [10] (fun i wr => ∃ (j : Nat) (es : List HEnt), j ≤ us.length ∧ i = .int .i64 (j : Int) ∧ Hid (es.length = j) ∧ Hid (EntS xs us es) ∧ Hid (HTab wr w.heap.size 185 (!es.isEmpty) es 0) ∧ Hid (Below w.heap.size w wr)) (fun i _ => us.length - (intOf i).toNat)
  case atStart => exact ⟨0, [], Nat.zero_le _, rfl, Lib.hid rfl, Lib.hid fun i h => absurd h (Nat.not_lt_zero _), HT0, HB0⟩
  case round =>
    clear HT0 HB0
    obtain ⟨j, es, hj0, rfl, HE, HQ, HT, HB⟩ := hrel
    by_cases hlt : j < us.length
    · obtain ⟨M, o, rfl, hcell⟩ := HR.out (fun e => by rw [e] at hlt; simp at hlt)
      obtain ⟨T0, x0, e0⟩ := HI.out j hlt
      have q0 := (HB.out.cell (p := ⟨M, o + j, none⟩) (lt_of_cell (hcell j hlt))).trans (hcell j hlt)
      rw [e0] at q0
      have hjx : j < xs.length := by have := HL.out; omega
      have hel : es.length = j := HE.out
      have HS : Hid (Calls Tryz.prog 95 #[.pointer (some ⟨w.heap.size, 0, none⟩), .iface T0 x0] wr fun e w' => e = .returned .nilIface ∧ HTab w' w.heap.size 185 true (es ++ [⟨hkey xs[j], .iface T0 x0, .iface 137 (.int .u8 0)⟩]) 0 ∧ Below w.heap.size wr w') := by
        subst hel
        have hh := HH.out es.length hlt hjx
        have hnew := HN.out es (fun i h h1 => by simp only [Nat.mul_one]; exact (HQ.out i h (by omega) (by have := HL.out; omega)).1) (by omega)
        simp only [Nat.mul_one] at hnew
        rw [e0] at hh
        refine Lib.hid ((setInsert_c w.heap.size es T0 x0 (hT xs[es.length]) w wr (Nat.le_refl _) HB.out HT.out (by omega) hh (fun q hq => ⟨?_, ?_⟩) (fun q hq _ W hW => ?_)))
        · rw [(HQ.out q hq (by omega) (by have := HL.out; omega)).1]
          exact HI.out _ (by omega)
        · rw [(HQ.out q hq (by omega) (by have := HL.out; omega)).2.2]
          exact hkey_ne _
        · have := hnew q hq hlt W hW
          rw [e0] at this
          exact this
      have HPU : Hid (EntS xs us (es ++ [⟨hkey xs[j], .iface T0 x0, .iface 137 (.int .u8 0)⟩])) := Lib.hid fun i hi h1 h2 => by
        have hi' : i < es.length + 1 := by simpa using hi
        by_cases hlt : i < es.length
        · rw [List.getElem_append_left hlt]; exact HQ.out i hlt h1 h2
        · have e2 : i = es.length := by omega
          subst e2
          rw [List.getElem_append_right (Nat.le_refl _)]
          subst hel
          exact ⟨by simpa using e0.symm, by simp, by simp⟩
      clear hcell e0
      go_wp2_with (go_at_call 95; (with_reducible refine HS.out.mono ?_); rintro e w1 ⟨rfl, h1, hb1⟩; have HT1 := Lib.hid h1; (replace HB : Hid (Below w.heap.size w w1) := Lib.hid (HB.out.trans hb1)); clear h1 hb1)
      go_roundw
      case rel =>
        refine ⟨j + 1, es ++ [⟨hkey xs[j], .iface T0 x0, .iface 137 (.int .u8 0)⟩], by omega, by go_num, Lib.hid (by simp [hel]), HPU, ?_, HB⟩
        rw [isEmpty_push]
        exact HT1
      case measure => simp [intOf]; omega
    · have HLEN := Lib.hid (fun W' (hW : W' = wr) => setLen_c w.heap.size _ es 0 wr HT.out (by have := HE.out; omega))
      have HE2 : Hid (us.length = es.length) := Lib.hid (by have := HE.out; omega)
      have hq : ((es.length : Int) == (us.length : Int)) = true := by have := HE2.out; simp; omega
      go_wp2_with (go_at_call 96; (with_reducible refine (HLEN.out _ rfl).mono ?_); rintro e w1 ⟨rfl, hw1⟩; have HW := Lib.hid hw1; clear hw1)
      go_ret2
      exact ⟨rfl, es, by rw [HW.out]; exact HT.out, by have := HL.out; have := HE2.out; omega, HQ.out, by rw [HW.out]; exact HB.out⟩
def ValueR (n : Nat) (x : VT) (w : World) (e : Ending) (w' : World) : Prop := ∃ u, e = .returned (.tuple #[u, .bool true]) ∧ PV w.heap.size n w' u x ∧ Below w.heap.size w w'
set_option maxRecDepth 100000 in
theorem valueSca_c (n : Nat) (x : VT) (v : Value) (w : World) (h : VR w v x) (hs : SC x) : Calls Tryz.prog 27 #[v] w (ValueR n x w) := by
  obtain ⟨s, hc, hf⟩ := hs
  have hk := hc.kind
  have hk6 : 0 ≤ x.f0 ∧ x.f0 < 6 := by rw [hk]; cases s <;> simp [Sca.kind]
  have HSc : Hid (∀ W, Below w.heap.size w W → Calls Tryz.prog 54 #[.int .i64 x.f0, v] W fun e w' => ∃ u, e = .returned (.tuple #[u, .bool true]) ∧ ScaV W.heap.size w' u s ∧ Below W.heap.size W w') := Lib.hid fun W hW => by
    have := scalar_c x v W (h.below hW) hc.leaf
    rw [hc.sca] at this
    exact this.mono fun e w' ⟨⟨u, he, hv⟩, hb⟩ => ⟨u, he, hv, hb⟩
  have HF := Lib.hid (And.intro hc hf)
  obtain ⟨A2, c2, A5, c5, rfl, _⟩ := h.open
  have HB0 : Hid (∀ o, Below w.heap.size w (w.alloc o)) := fun o => (Below.refl _ w).alloc (Nat.le_refl _) o
  have d1 : decide (x.f0 < 6) = true := by simp; omega
  clear h hc hf hk hk6
  go_enter Tryz.func27, Tryz.ntmps27
  go_wp2_with (go_at_call 54; (with_reducible refine (HSc.out _ (by first | exact HB0.out _ | exact (HB0.out _).drew)).mono ?_); rintro e w1 ⟨u, rfl, hv, hb1⟩; obtain ⟨T, y, rfl⟩ := sca_one hv; have HE := Lib.hid (And.intro hv hb1); clear hv hb1)
  go_ret2
  refine ⟨_, rfl, PV.of_s ⟨s, HF.out.1, HF.out.2, HE.out.1.lower (by simp)⟩ n, ?_⟩
  first | exact (HB0.out _).trans (HE.out.2.mono (by simp)) | exact (HB0.out _).drew.trans (HE.out.2.mono (by simp))
theorem VRow.rc {w0 w : World} {n M N : Nat} {xs : List VT} {us : List Value} (h : VRow w0 n M N xs us w) : RowC w (some ⟨M, 0, none⟩) us := fun _ => ⟨M, 0, rfl, fun i hi => by rw [Nat.zero_add]; exact h.cl i hi⟩
theorem VRow.pv {w0 w : World} {n M N : Nat} {xs : List VT} {us : List Value} (h : VRow w0 n M N xs us w) : ∀ i (h1 : i < us.length) (h2 : i < xs.length), PV w0.heap.size n w us[i] xs[i] := fun i h1 h2 => PV.lower (Nat.le_trans h.hM (Nat.le_succ M)) (h.sv i h1 h2)
set_option maxRecDepth 100000 in
set_option maxHeartbeats 1000000 in
theorem valueBox_c (n : Nat) (hn : n ≤ 8) (x : VT) (v : Value) (w : World) (h : VR w v x) (hb : Box x) (hl : x.f5.length ≤ 16) (hct : ∀ k ∈ x.f5, CT n k) (hk : x.f0 = 6 ∨ x.f0 = 7 ∨ (x.f0 = 8 ∧ DictOk n x.f5) ∨ (x.f0 = 9 ∧ SetOk n x.f5)) (hT : Thr w) (hL : Lim w)
    (ih : ∀ (y : VT) (u : Value) (W : World), VR W u y → CT n y → Thr W → Lim W → Calls Tryz.prog 27 #[u] W (ValueR n y W)) :
    Calls Tryz.prog 27 #[v] w (ValueR (n + 1) x w) := by
  obtain ⟨a0, a1, a2, a3, a4, xs⟩ := x
  obtain ⟨e1, e2, e3, e4⟩ := hb
  dsimp only at *
  subst e1 e2 e3 e4
  obtain ⟨A2, c2, A5, c5, rfl, l2, g2, l5, g5⟩ := h.open
  have HVs : Hid (∀ W, Below w.heap.size w W → Calls Tryz.prog 55 #[.slice A5 xs.length c5] W fun e w' => ∃ us, us.length = xs.length ∧ e = .returned (.tuple #[.slice (some ⟨W.heap.size, 0, none⟩) xs.length xs.length, .bool true]) ∧ VRow W n W.heap.size xs.length xs us w') := Lib.hid fun W hW =>
    values_c n A5 c5 xs W (Kd.C_below g5 hW) (by omega) fun i hi u W' hW' hu => ih _ u W' hu (hct _ (List.getElem_mem hi)) (hT.below (hW.trans (hW'.mono hW.size))) (hL.below (hW.trans (hW'.mono hW.size)))
  have HTL : Hid (∀ W, Below w.heap.size w W → Thr W ∧ Lim W) := Lib.hid fun W hW => ⟨hT.below hW, hL.below hW⟩
  have HB0 : Hid (∀ o, Below w.heap.size w (w.alloc o)) := fun o => (Below.refl _ w).alloc (Nat.le_refl _) o
  have hz : ∀ o, (w.alloc o).heap.size = w.heap.size + 1 := fun o => by simp
  have HZ := Lib.hid hz
  have HC := Lib.hid (And.intro hct hl)
  clear h l2 g2 l5 g5 hT hL ih hct hl hz
  rcases hk with rfl | rfl | ⟨rfl, hd⟩ | ⟨rfl, hd⟩
  · have HK0 : Hid ((w.alloc (.cells #[.int .i64 6, .bool false, .slice A2 0 c2, .int .u64 0, .string ⟨#[]⟩, .slice A5 xs.length c5] 26)).heap[w.heap.size]? = some (.cells #[.int .i64 6, .bool false, .slice A2 0 c2, .int .u64 0, .string ⟨#[]⟩, .slice A5 xs.length c5] 26 (0, 0))) := Lib.hid (blk_new _ _)
    go_enter Tryz.func27, Tryz.ntmps27
    go_wp2_with (first
      | (go_at_call 55; (with_reducible refine (HVs.out _ (by first | exact HB0.out _ | exact (HB0.out _).drew)).mono ?_); rintro e w1 ⟨us, hus, rfl, hr⟩; have z0 := blk_cell (blk_below HK0.out (by first | exact hr.low | exact (Below.refl _ _).drew.trans hr.low)) 0 _ rfl; have HR := Lib.hid (And.intro hus hr); clear hus hr)
      | (go_at_call 56; (with_reducible refine (newList_c _ _ _ _).mono ?_); rintro e w2 ⟨rfl, hk2, hb2⟩; have HN := Lib.hid (And.intro hk2 hb2); clear hk2 hb2))
    go_ret2
    have hlow : Below w.heap.size w w1 := by first | exact (HB0.out _).trans (HR.out.2.low.mono (HB0.out _).size) | exact (HB0.out _).drew.trans (HR.out.2.low.mono (HB0.out _).size)
    refine ⟨_, rfl, Or.inr ⟨⟨rfl, rfl, rfl, rfl⟩, Or.inl ⟨rfl, w1.heap.size, _, rfl, hlow.size, HN.out.1, ?_⟩⟩, hlow.trans (HN.out.2.mono hlow.size)⟩
    have hx := ((HR.out.2.below HN.out.2).rowV HR.out.1).lower (HB0.out _).size fun _ _ h => PV.lower (HB0.out _).size h
    rw [HZ.out] at hx
    exact hx
  · have HK0 : Hid ((w.alloc (.cells #[.int .i64 7, .bool false, .slice A2 0 c2, .int .u64 0, .string ⟨#[]⟩, .slice A5 xs.length c5] 26)).heap[w.heap.size]? = some (.cells #[.int .i64 7, .bool false, .slice A2 0 c2, .int .u64 0, .string ⟨#[]⟩, .slice A5 xs.length c5] 26 (0, 0))) := Lib.hid (blk_new _ _)
    go_enter Tryz.func27, Tryz.ntmps27
    go_wp2_with (go_at_call 55; (with_reducible refine (HVs.out _ (by first | exact HB0.out _ | exact (HB0.out _).drew)).mono ?_); rintro e w1 ⟨us, hus, rfl, hr⟩; have z0 := blk_cell (blk_below HK0.out (by first | exact hr.low | exact (Below.refl _ _).drew.trans hr.low)) 0 _ rfl; have HR := Lib.hid (And.intro hus hr); clear hus hr)
    go_ret2
    have hlow : Below w.heap.size w w1 := by first | exact (HB0.out _).trans (HR.out.2.low.mono (HB0.out _).size) | exact (HB0.out _).drew.trans (HR.out.2.low.mono (HB0.out _).size)
    refine ⟨_, rfl, Or.inr ⟨⟨rfl, rfl, rfl, rfl⟩, Or.inr (Or.inl ⟨rfl, _, rfl, ?_⟩)⟩, hlow⟩
    have hx := (HR.out.2.rowV HR.out.1).lower (HB0.out _).size fun _ _ h => PV.lower (HB0.out _).size h
    rw [HZ.out] at hx
    exact hx
  · have HD := Lib.hid hd
    clear hd
    have HK0 : Hid ((w.alloc (.cells #[.int .i64 8, .bool false, .slice A2 0 c2, .int .u64 0, .string ⟨#[]⟩, .slice A5 xs.length c5] 26)).heap[w.heap.size]? = some (.cells #[.int .i64 8, .bool false, .slice A2 0 c2, .int .u64 0, .string ⟨#[]⟩, .slice A5 xs.length c5] 26 (0, 0))) := Lib.hid (blk_new _ _)
    go_enter Tryz.func27, Tryz.ntmps27
    go_wp2_with (first
      | (go_at_call 55; (with_reducible refine (HVs.out _ (by first | exact HB0.out _ | exact (HB0.out _).drew)).mono ?_); rintro e w1 ⟨us, hus, rfl, hr⟩; have z0 := blk_cell (blk_below HK0.out (by first | exact hr.low | exact (Below.refl _ _).drew.trans hr.low)) 0 _ rfl; have HR := Lib.hid (And.intro hus hr); have hlow : Below w.heap.size w w1 := (by first | exact (HB0.out _).trans (hr.low.mono (HB0.out _).size) | exact (HB0.out _).drew.trans (hr.low.mono (HB0.out _).size)); have HLW := Lib.hid hlow; have hdc := dict_c n _ (some ⟨_, 0, none⟩) xs.length us xs w1 hus hr.rc hn (HTL.out _ hlow).1 (HTL.out _ hlow).2 hr.pv (fun i hi => hc_of (HC.out.1 _ (List.getElem_mem hi)) (HD.out.2.2.1 i hi)) HD.out.2.2.2 HD.out.1 HD.out.2.1; rw [hus, HZ.out] at hdc; have HDC := Lib.hid hdc; clear hus hr hlow hdc)
      | (go_at_call 57; (with_reducible refine HDC.out.mono ?_); rintro e w2 ⟨rfl, es, h1, h2, h3, h4⟩; have HE := Lib.hid (And.intro h1 (And.intro h2 (And.intro h3 h4))); clear h1 h2 h3 h4))
    go_ret2
    have hlow := HLW.out
    refine ⟨_, rfl, Or.inr ⟨⟨rfl, rfl, rfl, rfl⟩, Or.inr (Or.inr (Or.inl ⟨rfl, w1.heap.size, es, rfl, hlow.size, HE.out.1, HE.out.2.1, fun i hi h1 h2 => ?_⟩))⟩, hlow.trans (HE.out.2.2.2.mono hlow.size)⟩
    have hrow := HR.out.2.below HE.out.2.2.2
    have hus := HR.out.1
    refine ⟨?_, ?_, HE.out.2.2.1.h i hi h1⟩
    · rw [HE.out.2.2.1.k i hi (by rw [hus]; exact h1)]
      exact PV.lower (HB0.out _).size (hrow.pv _ (by rw [hus]; exact h1) h1)
    · rw [HE.out.2.2.1.v i hi (by rw [hus]; exact h2)]
      exact PV.lower (HB0.out _).size (hrow.pv _ (by rw [hus]; exact h2) h2)
  · have HD := Lib.hid hd
    clear hd
    have HK0 : Hid ((w.alloc (.cells #[.int .i64 9, .bool false, .slice A2 0 c2, .int .u64 0, .string ⟨#[]⟩, .slice A5 xs.length c5] 26)).heap[w.heap.size]? = some (.cells #[.int .i64 9, .bool false, .slice A2 0 c2, .int .u64 0, .string ⟨#[]⟩, .slice A5 xs.length c5] 26 (0, 0))) := Lib.hid (blk_new _ _)
    go_enter Tryz.func27, Tryz.ntmps27
    go_wp2_with (first
      | (go_at_call 55; (with_reducible refine (HVs.out _ (by first | exact HB0.out _ | exact (HB0.out _).drew)).mono ?_); rintro e w1 ⟨us, hus, rfl, hr⟩; have z0 := blk_cell (blk_below HK0.out (by first | exact hr.low | exact (Below.refl _ _).drew.trans hr.low)) 0 _ rfl; have HR := Lib.hid (And.intro hus hr); have hlow : Below w.heap.size w w1 := (by first | exact (HB0.out _).trans (hr.low.mono (HB0.out _).size) | exact (HB0.out _).drew.trans (hr.low.mono (HB0.out _).size)); have HLW := Lib.hid hlow; have hdc := set_c n _ (some ⟨_, 0, none⟩) xs.length us xs w1 hus hr.rc hn (HTL.out _ hlow).1 (HTL.out _ hlow).2 hr.pv (fun i hi => hc_of (HC.out.1 _ (List.getElem_mem hi)) (HD.out.2.1 _ (List.getElem_mem hi))) HD.out.2.2 HD.out.1; rw [hus, HZ.out] at hdc; have HDC := Lib.hid hdc; clear hus hr hlow hdc)
      | (go_at_call 58; (with_reducible refine HDC.out.mono ?_); rintro e w2 ⟨rfl, es, h1, h2, h3, h4⟩; have HE := Lib.hid (And.intro h1 (And.intro h2 (And.intro h3 h4))); clear h1 h2 h3 h4))
    go_ret2
    have hlow := HLW.out
    refine ⟨_, rfl, Or.inr ⟨⟨rfl, rfl, rfl, rfl⟩, Or.inr (Or.inr (Or.inr ⟨rfl, w1.heap.size, es, rfl, hlow.size, HE.out.1, HE.out.2.1, fun i hi h1 => ?_⟩))⟩, hlow.trans (HE.out.2.2.2.mono hlow.size)⟩
    have hrow := HR.out.2.below HE.out.2.2.2
    have hus := HR.out.1
    obtain ⟨k1, k2, k3⟩ := HE.out.2.2.1 i hi (by rw [hus]; exact h1) h1
    refine ⟨?_, k2, k3⟩
    rw [k1]
    exact PV.lower (HB0.out _).size (hrow.pv _ (by rw [hus]; exact h1) h1)
theorem value_c : ∀ (n : Nat), n ≤ 8 → ∀ (x : VT) (v : Value) (w : World), VR w v x → CT n x → Thr w → Lim w → Calls Tryz.prog 27 #[v] w (ValueR n x w)
  | 0, _, x, v, w, h, hc, _, _ => valueSca_c 0 x v w h hc
  | n + 1, hn, x, v, w, h, hc, hT, hL => by
    rcases hc with hs | ⟨hb, hl, hct, hk⟩
    · exact valueSca_c (n + 1) x v w h hs
    · exact valueBox_c n (by omega) x v w h hb hl hct hk hT hL fun y u W hu hy hT' hL' => value_c n (by omega) y u W hu hy hT' hL'
def FitR (e : Ending) : Prop := ∃ r : Bool, e = .returned (.bool r)
set_option maxRecDepth 100000 in
theorem fitsV_c (k b : Int) (n : Bool) (t : ByteArray) (A2 A5 : Option Addr) (m c2 n5 c5 : Nat) (w : World) : Calls Tryz.prog 8 #[.agg #[.int .i64 k, .bool n, .slice A2 m c2, .int .u64 b, .string t, .slice A5 n5 c5]] w fun e w' => FitR e ∧ Below w.heap.size w w' := by
  have HB : Hid (Below w.heap.size w (w.alloc (.cells #[.int .i64 k, .bool n, .slice A2 m c2, .int .u64 b, .string t, .slice A5 n5 c5] 26))) := Lib.hid ((Below.refl _ w).alloc (Nat.le_refl _) _)
  by_cases h1 : (2147483647 : Int) < m
  · go_enter Tryz.func8, Tryz.ntmps8
    go_wp2
    go_ret
    exact ⟨⟨_, rfl⟩, HB.out⟩
  · by_cases h2 : (2147483647 : Int) < t.size
    · go_enter Tryz.func8, Tryz.ntmps8
      go_wp2
      go_ret
      exact ⟨⟨_, rfl⟩, HB.out⟩
    · by_cases h3 : (2147483647 : Int) < n5
      · go_enter Tryz.func8, Tryz.ntmps8
        go_wp2
        go_ret
        exact ⟨⟨_, rfl⟩, HB.out⟩
      · go_enter Tryz.func8, Tryz.ntmps8
        go_wp2
        go_ret
        exact ⟨⟨_, rfl⟩, HB.out⟩
structure Kept (w : World) (y : VT) (P2 P5 : Option Addr) (p2 p5 : Nat) (W : World) : Prop where
  val : VR W (.agg (six5 y P2 p2 P5 y.f5.length p5)) y
  blk : W.heap[w.heap.size]? = some (.cells (six5 y P2 p2 P5 y.f5.length p5) 26 (0, 0))
  low : Below w.heap.size w W
set_option maxRecDepth 100000 in
theorem typeName_c (v : Value) (x : VT) (w : World) (h : VR w v x) (hk : 0 ≤ x.f0 ∧ x.f0 < 10) : Calls Tryz.prog 11 #[v] w fun e w' => e = .returned (.string (tname x.f0.toNat)) ∧ Below w.heap.size w w' := by
  obtain ⟨A2, c2, A5, c5, rfl, _⟩ := h.open
  obtain ⟨a0, a1, a2, a3, a4, a5⟩ := x
  dsimp only at *
  have hc : a0 = 0 ∨ a0 = 1 ∨ a0 = 2 ∨ a0 = 3 ∨ a0 = 4 ∨ a0 = 5 ∨ a0 = 6 ∨ a0 = 7 ∨ a0 = 8 ∨ a0 = 9 := by omega
  clear h hk
  rcases hc with rfl | rfl | rfl | rfl | rfl | rfl | rfl | rfl | rfl | rfl
  all_goals
    go_enter Tryz.func11, Tryz.ntmps11
    go_wp2
    go_ret
    exact ⟨rfl, (Below.refl _ w).alloc (Nat.le_refl _) _⟩
set_option maxRecDepth 100000 in
theorem implType_c (n : Nat) (hn : n ≤ 8) (v : Value) (x : VT) (w : World) (h : VR w v x) (hc : CT n x) (hT : Thr w) (hL : Lim w) : Calls Tryz.prog 10 #[v] w fun e w' => e = .returned (.tuple #[.string (tname x.f0.toNat), .bool true]) ∧ Below w.heap.size w w' := by
  obtain ⟨A2, c2, A5, c5, rfl, _⟩ := h.open
  have HB0 : Hid (∀ o, Below w.heap.size w (w.alloc o)) := fun o => (Below.refl _ w).alloc (Nat.le_refl _) o
  have HV := Lib.hid (fun W (hW : Below w.heap.size w W) => value_c n hn x _ W (h.below hW) hc (hT.below hW) (hL.below hW))
  clear h hc hT hL
  go_enter Tryz.func10, Tryz.ntmps10
  go_wp2_with (go_at_call 27; (with_reducible refine (HV.out _ (HB0.out _)).mono ?_); rintro e w1 ⟨u, rfl, hp, hb1⟩; obtain ⟨T, y, K, rfl, ⟨hm, he, hk⟩, _⟩ := typeAtP hp; have HB := Lib.hid ((HB0.out _).trans (hb1.mono (HB0.out _).size)); have HK := Lib.hid hk; clear hp hb1 hk)
  go_wp2_with (go_at_fn K; (with_reducible refine (HK.out _).mono ?_); rintro e w2 ⟨rfl, hb2⟩; replace HB := Lib.hid (HB.out.trans (hb2.mono HB.out.size)); clear hb2)
  go_ret2
  exact ⟨rfl, HB.out⟩
theorem ct_kind {n : Nat} {y : VT} (h : CT n y) : 0 ≤ y.f0 ∧ y.f0 < 10 := by
  by_cases hk : y.f0 < 6
  · have := (h.isSC hk).kind; omega
  · obtain ⟨m, _, _, _, _, h | h | h | h⟩ := h.isBox hk
    · omega
    · omega
    · omega
    · omega
theorem keptA {w : World} {B : Nat} {y : VT} {P2 P5 : Option Addr} {p2 p5 : Nat} (hM : kV.M w B (fun _ => True) y [.int .i64 y.f0, .bool y.f1, .slice P2 y.f2.length p2, .int .u64 y.f3, .string y.f4, .slice P5 y.f5.length p5]) : Kept w y P2 P5 p2 p5 (w.alloc (.cells (six5 y P2 p2 P5 y.f5.length p5) 26)) :=
  ⟨⟨_, rfl, kV.K_of_M (Kd.M_below hM ((Below.refl _ w).alloc (Nat.le_refl _) _))⟩, blk_new _ _, (Below.refl _ w).alloc (Nat.le_refl _) _⟩
set_option maxRecDepth 100000 in
set_option maxHeartbeats 1000000 in
theorem lawType_c (x : VT) (A2 : Option Addr) (c2 : Nat) (A5 : Option Addr) (n5 c5 : Nat) (w : World) (h : RawN 3 w x A2 c2 A5 n5 c5) (hT : Thr w) (hL : Lim w) : Calls Tryz.prog 3 #[.agg (six5 x A2 c2 A5 n5 c5)] w fun e w' => e = .returned (.bool true) ∧ Below w.heap.size w w' := by
  obtain ⟨W0, hW0⟩ : ∃ W, W = w.alloc (.cells (six5 x A2 c2 A5 n5 c5) 26) := ⟨_, rfl⟩
  have HB0 : Hid (Below w.heap.size w W0) := by rw [hW0]; exact Lib.hid ((Below.refl _ w).alloc (Nat.le_refl _) _)
  have HK0 : Hid (W0.heap[w.heap.size]? = some (.cells (six5 x A2 c2 A5 n5 c5) 26 (0, 0))) := by rw [hW0]; exact Lib.hid (blk_new _ _)
  have HC : Hid (∀ W, Below w.heap.size w W → Calls Tryz.prog 9 #[.agg (six5 x A2 c2 A5 n5 c5), .int .i64 3] W (CleanN 3 W)) := Lib.hid (fun W (hW : Below w.heap.size w W) => cleanTree_c 3 (by omega) x A2 c2 A5 n5 c5 W (h.below hW))
  have HTL : Hid (∀ W, Below w.heap.size w W → Thr W ∧ Lim W) := Lib.hid fun W hW => ⟨hT.below hW, hL.below hW⟩
  clear h hT hL
  go_enter Tryz.func3, Tryz.ntmps3
  go_wp2_with fail
  rw [← hW0]
  clear hW0
  obtain ⟨z0, z1, z2, z3, z4, z5⟩ := cells6 HK0.out
  go_wp2_with (first | (go_at_call 8; (with_reducible refine (fitsV_c _ _ _ _ _ _ _ _ _ _ _).mono ?_); rintro e w1 ⟨⟨r, rfl⟩, hb1⟩; have H1 := Lib.hid (And.intro (HB0.out.trans (hb1.mono HB0.out.size)) (blk_below HK0.out hb1)); clear hb1 z0 z1 z2 z3 z4 z5; obtain ⟨z0, z1, z2, z3, z4, z5⟩ := cells6 H1.out.2; cases r) | (go_at_call 9; (with_reducible refine (HC.out _ H1.out.1).mono ?_); rintro e w2 ⟨cs, y, rfl, hM, hct, hb2⟩; have HM := Lib.hid hM; have HCT := Lib.hid hct; have HB2 := Lib.hid (H1.out.1.trans (hb2.mono H1.out.1.size)); clear hM hct hb2 z0 z1 z2 z3 z4 z5; obtain ⟨P2, p2, P5, p5, hcs, hM⟩ := vm_shape ⟨cs, rfl, HM.out⟩; obtain rfl : cs = _ := congrArg Array.toList (Value.agg.inj hcs); have HM2 := Lib.hid hM; clear hM hcs HM))
  all_goals first | (go_ret; exact ⟨rfl, H1.out.1⟩) | skip
  obtain ⟨W, hW⟩ : ∃ W, W = w2.alloc (.cells (six5 y P2 p2 P5 y.f5.length p5) 26) := ⟨_, rfl⟩
  have HX : Hid (Kept w2 y P2 P5 p2 p5 W) := by rw [hW]; exact Lib.hid (keptA HM2.out)
  rw [← hW]
  clear hW
  have HB3 : Hid (Below w.heap.size w W) := Lib.hid (HB2.out.trans (HX.out.low.mono HB2.out.size))
  have HY := Lib.hid (implType_c 3 (by omega) _ y W HX.out.val HCT.out (HTL.out _ HB3.out).1 (HTL.out _ HB3.out).2)
  have HKK : Hid (0 ≤ y.f0 ∧ y.f0 < 10) := Lib.hid (ct_kind HCT.out)
  with_reducible refine HY.out.mono ?_
  rintro e w4 ⟨rfl, hb4⟩
  obtain ⟨z0, z1, z2, z3, z4, z5⟩ := cells6 (blk_below HX.out.blk hb4)
  have HB4 := Lib.hid (HB3.out.trans (hb4.mono HB3.out.size))
  have HN := Lib.hid (typeName_c _ y w4 (HX.out.val.below hb4) HKK.out)
  clear hb4
  go_wp2_with (go_at_call 11; (with_reducible refine HN.out.mono ?_); rintro e w5 ⟨rfl, hb5⟩; have HB5 := Lib.hid (HB4.out.trans (hb5.mono HB4.out.size)); clear hb5)
  go_ret
  exact ⟨rfl, HB5.out⟩
end Go.Proofs.YtkplnbjgkhmbcaaGreatDoor
