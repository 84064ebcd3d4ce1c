/- impl.scalars. · impl.scalars: the walk. · impl.listOf. · big.Int Sign. -/
import Derived.Test.YtkplnbjgkhmbcaaGreatDoorM32
import Derived.ArgAppend
import Derived.Laws.MakeOwn
import Derived.LoopTactic
import Derived.OwnWalk
namespace Go.Proofs.YtkplnbjgkhmbcaaGreatDoor
open Go.RowKit Go.Shelf Go.Proofs.YtkplnbjgkhmbcaaGreatDoorW.PrintWords Go.Proofs.YtkplnbjgkhmbcaaGreatDoorW.PrintLast Go.Proofs.YtkplnbjgkhmbcaaGreatDoorW.PrintMore Go.Proofs.YtkplnbjgkhmbcaaGreatDoor.PFnCompare Go.Proofs.YtkplnbjgkhmbcaaGreatDoor.PCmp Go.Proofs.YtkplnbjgkhmbcaaGreatDoor.PbytesOf Go.Proofs.YtkplnbjgkhmbcaaGreatDoor.Pcmp
set_option linter.unusedVariables false
set_option linter.unusedSimpArgs false

/-- The values made so far, in a new row of room N. -/
structure SO (w0 : World) (M N : Nat) (ss : List Sca) (us : List Value) (w : World) : Prop where
  low : Below w0.heap.size w0 w
  hM : w0.heap.size ≤ M
  lt : M < w.heap.size
  len : us.length = ss.length
  cl : ∀ i (h : i < us.length), w.cell? ⟨M, i, none⟩ = some us[i]
  sv : ∀ i (h : i < us.length) (h2 : i < ss.length), ScaV (M + 1) w us[i] ss[i]
  room : ∀ i, i < N → (w.cell? ⟨M, i, none⟩).isSome = true ∧ w.frozen? ⟨M, i, none⟩ = false
theorem SO.below {w0 w w' : World} {M N : Nat} {ss : List Sca} {us : List Value} (h : SO w0 M N ss us w) (hb : Below w.heap.size w w') : SO w0 M N ss us w' :=
  ⟨h.low.trans (hb.mono h.low.size), h.hM, Nat.lt_of_lt_of_le h.lt hb.size, h.len, fun i hi => (hb.cell (p := ⟨M, i, none⟩) h.lt).trans (h.cl i hi), fun i h1 h2 => (h.sv i h1 h2).below hb, fun i hi => ⟨by rw [hb.cell (p := ⟨M, i, none⟩) h.lt]; exact (h.room i hi).1, (hb.frozen (p := ⟨M, i, none⟩) h.lt).trans (h.room i hi).2⟩⟩
theorem so_start (w : World) (N : Nat) (e : TypeId) : SO w w.heap.size N [] [] (w.alloc (.cells (madeCells #[.nilIface] N) e)) := by
  refine ⟨(Below.refl _ w).alloc (Nat.le_refl _) _, Nat.le_refl _, by simp, rfl, (fun i h => absurd h (Nat.not_lt_zero _)), (fun i h => absurd h (Nat.not_lt_zero _)), fun i hi => ⟨?_, ?_⟩⟩
  · rw [World.cell?_alloc_mark, ← Array.getElem?_toList, toList_madeCells_one, List.getElem?_replicate, if_pos hi]; rfl
  · rw [World.frozen?_alloc_mark]; simp
theorem ScaV.setCell {B : Nat} {w : World} {v : Value} {s : Sca} (h : ScaV B w v s) {p : Addr} (y : Value) (hp : p.block < B) : ScaV B (w.setCell p y) v s := by
  cases s <;> first | exact h | (obtain ⟨u, rfl, h⟩ := h; exact ⟨u, rfl, h.setCell y hp⟩)
theorem set_one (w : World) (M k : Nat) (u : Value) : w.setCells M k [u] = w.setCell ⟨M, k, none⟩ u := rfl
theorem SO.push {w0 w : World} {M N : Nat} {ss : List Sca} {us : List Value} {u : Value} {s : Sca} (h : SO w0 M N ss us w) (hs : ScaV (M + 1) w u s) (hk : us.length < N) : SO w0 M N (ss ++ [s]) (us ++ [u]) (w.setCell ⟨M, us.length, none⟩ u) := by
  have hcl : ∀ i (h1 : i < (us ++ [u]).length), (w.setCell ⟨M, us.length, none⟩ u).cell? ⟨M, i, none⟩ = some (us ++ [u])[i] := by
    intro i h1
    simp at h1
    by_cases hi : i < us.length
    · rw [World.cell?_setCell_other (h := by intro e; injection e with _ e; omega), h.cl i hi, List.getElem_append_left hi]
    · have : i = us.length := by omega
      subst this
      obtain ⟨x, hx⟩ := Option.isSome_iff_exists.1 (h.room us.length hk).1
      rw [World.cell?_setCell_same (h := hx)]; simp
  refine ⟨h.low.setCell (p := ⟨M, us.length, none⟩) h.hM _, h.hM, by simpa [World.setCell] using h.lt, by simp [h.len], hcl, ?_, ?_⟩
  · intro i h1 h2
    simp at h1
    by_cases hi : i < us.length
    · have hi2 : i < ss.length := by rw [← h.len]; exact hi
      rw [List.getElem_append_left hi, List.getElem_append_left hi2]
      exact (h.sv i hi hi2).setCell (p := ⟨M, us.length, none⟩) _ (Nat.lt_succ_self M)
    · have e : i = us.length := by omega
      subst e
      have e2 : (us ++ [u])[us.length] = u := by simp
      have e3 : (ss ++ [s])[us.length] = s := by
        have : us.length = ss.length := h.len
        simp [this]
      rw [e2, e3]
      exact hs.setCell (p := ⟨M, us.length, none⟩) _ (Nat.lt_succ_self M)
  · intro i hi
    refine ⟨?_, by rw [World.frozen?_setCell]; exact (h.room i hi).2⟩
    by_cases he : i = us.length
    · subst he
      rw [hcl us.length (by simp)]; rfl
    · rw [World.cell?_setCell_other (h := by intro e; injection e with _ e; omega)]
      exact (h.room i hi).1
end Go.Proofs.YtkplnbjgkhmbcaaGreatDoor

namespace Go.Proofs.YtkplnbjgkhmbcaaGreatDoor
open Go.RowKit Go.Shelf Go.Proofs.YtkplnbjgkhmbcaaGreatDoorW.PrintWords Go.Proofs.YtkplnbjgkhmbcaaGreatDoorW.PrintLast Go.Proofs.YtkplnbjgkhmbcaaGreatDoorW.PrintMore Go.Proofs.YtkplnbjgkhmbcaaGreatDoor.PFnCompare Go.Proofs.YtkplnbjgkhmbcaaGreatDoor.PCmp Go.Proofs.YtkplnbjgkhmbcaaGreatDoor.PbytesOf Go.Proofs.YtkplnbjgkhmbcaaGreatDoor.Pcmp
set_option linter.unusedVariables false
set_option linter.unusedSimpArgs false

/-- An append whose run is known, as one step. -/
theorem wpList_append_run {P : Program} {w w' : World} {ops : Array Oper} {rest : List Oper} {o : Oper} {a : Act} {Q : Exit → Act → World → Prop} (hg : o.guard = none) (s x : Operand) (t : TypeId) (hop : o.op = Op.call { callee := Callee.builtin Builtin.append, args := #[s, x], argTypes := #[t, t] })
    (v1 v2 v3 : Value) (hs : a.eval s = v1) (hx : a.eval x = v2) (hrun : (Builtin.append_ #[t, t] o.type #[v1, v2]).run P w = .ok v3 w') (hK : wpList P ops Q rest (a.put o.dst v3) w') : wpList P ops Q (o :: rest) a w := by
  refine wpList_plain hg fun K hK' => ?_
  unfold Oper.wp
  simp [execOp, hop, resolve, invoke, builtin, hs, hx, hrun, Result.andThen]
  exact hK' _ _ hK
theorem sca_one {B : Nat} {w : World} {v : Value} {s : Sca} (h : ScaV B w v s) : ∃ T x, v = .iface T x := by
  obtain ⟨T, x, K, h, _⟩ := typeAt h
  exact ⟨T, x, h⟩
set_option maxRecDepth 100000 in
theorem app_one (w : World) (M j n : Nat) (T : TypeId) (x : Value) (hj : j < n) (hM : M < w.heap.size) (hr : (w.cell? ⟨M, j, none⟩).isSome = true ∧ w.frozen? ⟨M, j, none⟩ = false) :
    (Builtin.append_ #[94, 94] 94 #[.slice (some ⟨M, 0, none⟩) j n, .slice (some ⟨w.heap.size, 0, none⟩) 1 1]).run Tryz.prog (w.alloc (.cells #[.iface T x] 57)) = .ok (.slice (some ⟨M, 0, none⟩) (j + 1) n) ((w.alloc (.cells #[.iface T x] 57)).setCell ⟨M, j, none⟩ (.iface T x)) := by
  obtain ⟨i0, hi0, hz0, hz1, hz2⟩ := info_parts valInfo
  have hb : Below w.heap.size w (w.alloc (.cells #[.iface T x] 57)) := (Below.refl _ w).alloc (Nat.le_refl _) _
  have := run_append_room_cells (P := Tryz.prog) (w.alloc (.cells #[.iface T x] 57)) 94 94 57 i0 Tryz.underlying94 hi0 M 0 j n ⟨w.heap.size, 0, none⟩ 1 1 [.iface T x] (by rw [hz1]; rfl)
    (fun l u hu => by
      cases l with
      | zero => simp at hu; subst hu; exact blk_cell (blk_new _ _) 0 _ rfl
      | succ l => simp at hu)
    (fun u hu => by rw [List.mem_singleton] at hu; subst hu; rfl) (by omega)
    (fun l hl => by simp at hl; subst hl; rw [hz1, Nat.mul_one, Nat.zero_add, Nat.add_zero, hb.cell (p := ⟨M, j, none⟩) hM]; exact hr.1)
    (fun l hl => by simp at hl; subst hl; rw [hz1, Nat.mul_one, Nat.zero_add, Nat.add_zero, hb.frozen (p := ⟨M, j, none⟩) hM]; exact hr.2)
  rw [hz1, Nat.mul_one, Nat.zero_add] at this
  exact this

set_option maxRecDepth 100000 in
set_option maxHeartbeats 1000000 in
theorem scalars_c (A : Option Addr) (c : Nat) (xs : List VT) (w : World) (h : kV.C w A xs.length xs) (hl : ∀ x ∈ xs, Leaf x) (hn : xs.length ≤ 1000000) :
    Calls Tryz.prog 80 #[.slice A xs.length c] w fun e w' => ((∃ i, ∃ h : i < xs.length, scaOf xs[i] = none) ∧ e = .returned (.tuple #[.slice none 0 0, .bool false]) ∧ Below w.heap.size w w') ∨ (∃ ss us, (∀ i (h1 : i < ss.length) (h2 : i < xs.length), scaOf xs[i] = some ss[i]) ∧ ss.length = xs.length ∧ e = .returned (.tuple #[.slice (some ⟨w.heap.size, 0, none⟩) xs.length xs.length, .bool true]) ∧ SO w w.heap.size xs.length ss us w') := by
  obtain ⟨i0, hi0, hz0, hz1, hz2⟩ := info_parts valInfo
  have hmk := run_make (P := Tryz.prog) w 94 57 i0 .nilIface Tryz.underlying94 hi0 hz0 .i64 .i64 0 xs.length (by omega) (by omega) (by rw [hz2]; omega) (by omega)
  simp only [hz1, Nat.mul_one, Int.toNat_natCast, Int.toNat_zero] at hmk
  have hcl : (Value.nilIface).cells = #[.nilIface] := rfl
  rw [hcl] at hmk
  have HS0 := Lib.hid (so_start w xs.length 57)
  have HK := Lib.hid (fun i hi => kid_at h i hi rfl)
  have HLf := Lib.hid hl
  clear hcl hz0 hz1 hz2 hi0 h hl
  go_enter Tryz.func80, Tryz.ntmps80
  go_wp2_with fail
  clear hmk
  go_loopw [4, 14] (fun out i wr => ∃ (j : Nat) (ss : List Sca) (us : List Value), j ≤ xs.length ∧ i = .int .i64 (j : Int) ∧ us.length = j ∧ out = .slice (some ⟨w.heap.size, 0, none⟩) j xs.length ∧ Hid (∀ i (h1 : i < ss.length) (h2 : i < xs.length), scaOf xs[i] = some ss[i]) ∧ Hid (SO w w.heap.size xs.length ss us wr)) (fun _ i _ => xs.length - (intOf i).toNat)
  case atStart => exact ⟨0, [], [], Nat.zero_le _, rfl, rfl, rfl, fun i h1 => absurd h1 (Nat.not_lt_zero _), HS0⟩
  case round =>
    obtain ⟨j, ss, us, hj, rfl, hu, rfl, HQ, HS⟩ := hrel
    by_cases hlt : j < xs.length
    · obtain ⟨b, o, A2, c2, A5, c5, rfl, hb, k0, k1, k2, k3, k4, k5, hV⟩ := HK.out j hlt
      have hB := HS.out.low
      have x0 := (hB.cell (p := ⟨b, o + j * 6, none⟩) hb).trans k0
      have x1 := (hB.cell (p := ⟨b, o + j * 6 + 1, none⟩) hb).trans k1
      have x2 := (hB.cell (p := ⟨b, o + j * 6 + 2, none⟩) hb).trans k2
      have x3 := (hB.cell (p := ⟨b, o + j * 6 + 3, none⟩) hb).trans k3
      have x4 := (hB.cell (p := ⟨b, o + j * 6 + 4, none⟩) hb).trans k4
      have x5 := (hB.cell (p := ⟨b, o + j * 6 + 5, none⟩) hb).trans k5
      have HSc := Lib.hid (fun W (hW : Below w.heap.size w W) => scalar_c xs[j] _ W (hV.below hW) (HLf.out _ (List.getElem_mem hlt)))
      have HB0 : Hid (∀ o, Below w.heap.size w (wr.alloc o)) := Lib.hid fun o => hB.alloc hB.size o
      have HBr : Hid (∀ o, Below wr.heap.size wr (wr.alloc o)) := Lib.hid fun o => (Below.refl _ wr).alloc (Nat.le_refl _) o
      clear k0 k1 k2 k3 k4 k5 hV hB
      cases hsc : scaOf xs[j] with
      | none =>
        rw [hsc] at HSc
        have HN := Lib.hid hsc
        clear hsc
        go_wp2_with (go_at_call 54; (with_reducible refine (HSc.out _ (HB0.out _)).mono ?_); rintro e w3 ⟨⟨u, rfl⟩, hb3⟩; have HB3 := Lib.hid hb3; clear hb3)
        go_ret2
        exact Or.inl ⟨⟨j, hlt, HN.out⟩, rfl, (HB0.out _).trans (HB3.out.mono (HB0.out _).size)⟩
      | some s =>
        rw [hsc] at HSc
        have HN := Lib.hid hsc
        clear hsc
        have hMr := HS.out.lt
        have hrm := HS.out.room j hlt
        go_wp2_with (first | (at_builtin; refine wpList_append_run rfl _ _ _ rfl _ _ _ rfl rfl happ.out ?_) | (go_at_call 54; (with_reducible refine (HSc.out _ (HB0.out _)).mono ?_); rintro e w3 ⟨⟨u, rfl, hsv⟩, hb3⟩; obtain ⟨T, x, rfl⟩ := sca_one hsv; have HV := Lib.hid (hsv.mono (Nat.lt_of_lt_of_le hMr (HBr.out _).size)); have HB3 := Lib.hid ((HBr.out _).trans (hb3.mono (HBr.out _).size)); have happ := Lib.hid (app_one w3 w.heap.size j xs.length T x hlt (Nat.lt_of_lt_of_le hMr HB3.out.size) ⟨by rw [HB3.out.cell (p := ⟨w.heap.size, j, none⟩) hMr]; exact hrm.1, (HB3.out.frozen (p := ⟨w.heap.size, j, none⟩) hMr).trans hrm.2⟩); clear hsv hb3))
        go_roundw
        case rel =>
          subst hu
          have hq := ((HS.out.below HB3.out).below ((Below.refl _ _).alloc (Nat.le_refl _) (.cells #[.iface T x] 57))).push (HV.out.below ((Below.refl _ _).alloc (Nat.le_refl _) (.cells #[.iface T x] 57))) hlt
          refine ⟨us.length + 1, ss ++ [s], us ++ [.iface T x], by omega, by go_num, by simp, rfl, ?_, Lib.hid hq⟩
          have hlen := HS.out.len
          exact Lib.hid fun i h1 h2 => by
            simp at h1
            by_cases hi : i < ss.length
            · rw [List.getElem_append_left hi]; exact HQ.out i hi h2
            · have e : i = us.length := by omega
              subst e
              rw [HN.out]
              simp [hlen]
        case measure => simp [intOf]; omega
    · have hje : j = xs.length := by omega
      subst hje
      go_wp2
      go_ret2
      exact Or.inr ⟨ss, us, HQ.out, by rw [← HS.out.len]; exact hu, rfl, HS.out⟩
end Go.Proofs.YtkplnbjgkhmbcaaGreatDoor

namespace Go.Proofs.YtkplnbjgkhmbcaaGreatDoor
open Go.RowKit Go.Shelf Go.Proofs.YtkplnbjgkhmbcaaGreatDoorW.PrintWords Go.Proofs.YtkplnbjgkhmbcaaGreatDoorW.PrintLast Go.Proofs.YtkplnbjgkhmbcaaGreatDoorW.PrintMore Go.Proofs.YtkplnbjgkhmbcaaGreatDoor.PFnCompare Go.Proofs.YtkplnbjgkhmbcaaGreatDoor.PCmp Go.Proofs.YtkplnbjgkhmbcaaGreatDoor.PbytesOf Go.Proofs.YtkplnbjgkhmbcaaGreatDoor.Pcmp
set_option linter.unusedVariables false
set_option linter.unusedSimpArgs false

theorem SO.el {w0 w w' : World} {M c : Nat} {ss : List Sca} {us : List Value} (h : SO w0 M us.length ss us w) (hb : Below w.heap.size w w') (hc : LT w' w.heap.size (.slice (some ⟨M, 0, none⟩) us.length c)) : EL w' w.heap.size M c us ∧ w.heap.size ≠ M ∧ SO w0 M us.length ss us w' :=
  ⟨⟨hc, (h.below hb).cl, fun j hj => ((h.below hb).room j hj).2⟩, by have := h.lt; omega, h.below hb⟩
/-- What impl.listOf answers of values that are all scalars. -/
def ListR (w : World) (xs : List VT) (e : Ending) (w' : World) : Prop :=
  ((∃ i, ∃ h : i < xs.length, scaOf xs[i] = none) ∧ e = .returned (.tuple #[.pointer none, .bool false]) ∧ Below w.heap.size w w') ∨
  (∃ ss us g, (∀ i (h1 : i < ss.length) (h2 : i < xs.length), scaOf xs[i] = some ss[i]) ∧ ss.length = xs.length ∧ us.length = xs.length ∧ e = .returned (.tuple #[.pointer (some ⟨g, 0, none⟩), .bool true]) ∧ w.heap.size ≤ g ∧ g ≠ w.heap.size ∧ EL w' g w.heap.size xs.length us ∧ SO w w.heap.size xs.length ss us w')
set_option maxRecDepth 100000 in
theorem listOf_c (A : Option Addr) (c : Nat) (xs : List VT) (w : World) (h : kV.C w A xs.length xs) (hl : ∀ x ∈ xs, Leaf x) (hn : xs.length ≤ 1000000) :
    Calls Tryz.prog 46 #[.slice A xs.length c] w (ListR w xs) := by
  have hs := scalars_c A c xs w h hl hn
  clear h hl
  by_cases hall : ∃ i, ∃ h : i < xs.length, scaOf xs[i] = none
  · have HS : Hid (Calls Tryz.prog 80 #[.slice A xs.length c] w fun e w' => e = .returned (.tuple #[.slice none 0 0, .bool false]) ∧ Below w.heap.size w w') := Lib.hid (hs.mono fun e w' hp => by
      rcases hp with ⟨_, h2, h3⟩ | ⟨ss, us, h1, h2, _⟩
      · exact ⟨h2, h3⟩
      · obtain ⟨i, hi, hno⟩ := hall
        have := h1 i (by omega) hi
        rw [hno] at this; cases this)
    have HA := Lib.hid hall
    clear hs hall
    go_enter Tryz.func46, Tryz.ntmps46
    go_wp2_with (go_at_call 80; (with_reducible refine HS.out.mono ?_); rintro e w1 ⟨rfl, hb1⟩; have HB := Lib.hid hb1; clear hb1)
    go_ret2
    exact Or.inl ⟨HA.out, rfl, HB.out⟩
  · have HS : Hid (Calls Tryz.prog 80 #[.slice A xs.length c] w fun e w' => e = .returned (.tuple #[.slice (some ⟨w.heap.size, 0, none⟩) xs.length xs.length, .bool true]) ∧ ∃ ss us, (∀ i (h1 : i < ss.length) (h2 : i < xs.length), scaOf xs[i] = some ss[i]) ∧ ss.length = xs.length ∧ SO w w.heap.size xs.length ss us w') := Lib.hid (hs.mono fun e w' hp => by
      rcases hp with ⟨h1, _⟩ | ⟨ss, us, h1, h2, h3, h4⟩
      · exact absurd h1 hall
      · exact ⟨h3, ss, us, h1, h2, h4⟩)
    clear hs hall
    go_enter Tryz.func46, Tryz.ntmps46
    go_wp2_with (first
      | (go_at_call 80; (with_reducible refine HS.out.mono ?_); rintro e w1 ⟨rfl, hx⟩; have HX := Lib.hid hx; clear hx)
      | (go_at_call 56; (with_reducible refine (newList_c _ _ _ _).mono ?_); rintro e w2 ⟨rfl, hk2, hb2⟩; have HK := Lib.hid (And.intro hk2 hb2); clear hk2 hb2))
    go_ret2
    obtain ⟨ss, us, h1, h2, h3⟩ := HX.out
    have hlen : us.length = xs.length := by rw [h3.len, h2]
    rw [← hlen] at h3
    have hk := HK.out.1
    rw [← hlen] at hk
    obtain ⟨g1, g2, g3⟩ := h3.el HK.out.2 hk
    rw [hlen] at g1 g3
    exact Or.inr ⟨ss, us, _, h1, h2, hlen, rfl, h3.low.size, g2, g1, g3⟩
end Go.Proofs.YtkplnbjgkhmbcaaGreatDoor

namespace Go.Proofs.YtkplnbjgkhmbcaaGreatDoor
open Go.RowKit Go.Shelf Go.Proofs.YtkplnbjgkhmbcaaGreatDoorW.PrintWords Go.Proofs.YtkplnbjgkhmbcaaGreatDoorW.PrintLast Go.Proofs.YtkplnbjgkhmbcaaGreatDoorW.PrintMore
set_option linter.unusedVariables false
set_option linter.unusedSimpArgs false

set_option maxRecDepth 100000 in
theorem isign_c (g o : Nat) (n : Bool) (v : Value) (zs : List Int) (w : World) (h : PI w g o n v zs) (hz : zs = [] → n = false) (hl : zs.length ≤ 1000000) :
    Calls Tryz.prog 108 #[.pointer (some ⟨g, o, none⟩)] w fun e w' => e = .returned (.int .i64 (if zs = [] then 0 else if n then -1 else 1)) ∧ w' = w := by
  obtain ⟨A, k, rfl, _⟩ := h.sl.c
  have c0 := h.c0
  have c1 := h.c1
  clear h
  by_cases he : zs = []
  · subst he
    rw [if_pos rfl]
    go_enter Tryz.func108, Tryz.ntmps108
    go_wp2
    go_ret
    exact ⟨rfl, rfl⟩
  · rw [if_neg he]
    have hlen : ((zs.length : Int) == 0) = false := by
      have : zs.length ≠ 0 := fun h => he (List.eq_nil_of_length_eq_zero h)
      simp; omega
    cases n
    all_goals
      go_enter Tryz.func108, Tryz.ntmps108
      go_wp2
      go_ret
      exact ⟨rfl, rfl⟩
end Go.Proofs.YtkplnbjgkhmbcaaGreatDoor
