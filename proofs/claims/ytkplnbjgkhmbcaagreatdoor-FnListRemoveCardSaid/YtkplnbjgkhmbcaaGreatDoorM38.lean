/- spec: Equal, Find, SameList on Vals without kids. · spec: Find, SameList over Vals without kids. · spec.SameList of two rows of Vals alike. · spec.without: a row of Vals without one of them. -/
import Derived.Test.YtkplnbjgkhmbcaaGreatDoorM37
import Derived.Test.YtkplnbjgkhmbcaaGreatDoorM08
import Derived.Test.YtkplnbjgkhmbcaaGreatDoorM35
import Derived.LoopTactic
import Derived.Deep.RegionHeld3
import Derived.Maps.AppendAt
namespace Go.Proofs.YtkplnbjgkhmbcaaGreatDoor
open Go.RowKit Go.Shelf Go.Proofs.YtkplnbjgkhmbcaaGreatDoorW.PrintWords Go.Proofs.YtkplnbjgkhmbcaaGreatDoorW.PrintLast Go.Proofs.YtkplnbjgkhmbcaaGreatDoorW.PrintMore Go.Proofs.YtkplnbjgkhmbcaaGreatDoor.PFnCompare Go.Proofs.YtkplnbjgkhmbcaaGreatDoor.PCmp Go.Proofs.YtkplnbjgkhmbcaaGreatDoor.PbytesOf Go.Proofs.YtkplnbjgkhmbcaaGreatDoor.Pcmp
set_option linter.unusedVariables false
set_option linter.unusedSimpArgs false

/-- Two boxes of Vals, while the rest grows. -/
structure TB (w0 : World) (cs ds : Array Value) (w : World) : Prop where
  b1 : w.heap[w0.heap.size]? = some (.cells cs 26 (0, 0))
  b2 : w.heap[w0.heap.size + 1]? = some (.cells ds 26 (0, 0))
  low : Below w0.heap.size w0 w
theorem TB.below {w0 w w' : World} {cs ds : Array Value} (h : TB w0 cs ds w) (hb : Below w.heap.size w w') : TB w0 cs ds w' := ⟨blk_below h.b1 hb, blk_below h.b2 hb, h.low.trans (hb.mono h.low.size)⟩
theorem tb_start (w : World) (cs ds : Array Value) : TB w cs ds ((w.alloc (.cells cs 26)).alloc (.cells ds 26)) :=
  ⟨blk_alloc (blk_new _ _) _, by simpa using blk_new (w.alloc (.cells cs 26)) (.cells ds 26), ((Below.refl _ _).alloc (Nat.le_refl _) _).alloc (by simp) _⟩
theorem cmpB_zero : ∀ (a b : List UInt8), (Lib.compareBytes a b == 0) = (a == b)
  | [], [] => rfl
  | [], _ :: _ => rfl
  | _ :: _, [] => rfl
  | a :: p, b :: q => by
    unfold Lib.compareBytes
    by_cases h1 : a < b
    · have : a ≠ b := fun e => by subst e; exact absurd h1 (by simp)
      rw [if_pos h1]; simp [this]
    · by_cases h2 : b < a
      · have : a ≠ b := fun e => by subst e; exact absurd h2 (by simp)
        rw [if_neg h1, if_pos h2]; simp [this]
      · have : a = b := by
          apply UInt8.toNat_inj.1
          have h1' : ¬ a.toNat < b.toNat := h1
          have h2' : ¬ b.toNat < a.toNat := h2
          omega
        subst this
        rw [if_neg h1, if_neg h2, cmpB_zero p q]; simp
theorem eqS_bytes (a b : ByteArray) : eqS (.bytes a) (.bytes b) = (a == b) := by
  show (Lib.compareBytes a.data.toList b.data.toList == 0) = _
  rw [cmpB_zero]
  have h1 : (a == b) = (a.data == b.data) := rfl
  rw [h1]
  simp

theorem beqL (a b : ByteArray) : (a.toList == b.toList) = (a == b) := by
  rw [Lib.toList_data, Lib.toList_data]
  have h1 : (a == b) = (a.data == b.data) := rfl
  rw [h1]
  simp
set_option maxRecDepth 100000 in
set_option maxHeartbeats 1000000 in
theorem specEq_c (s t : Sca) (x y : VT) (v1 v2 : Value) (w : World) (h1 : VR w v1 x) (h2 : VR w v2 y) (hx : Canon s x) (hy : Canon t y) : Calls Tryz.prog 30 #[v1, v2] w fun e w' => e = .returned (.bool (eqS s t)) ∧ Below w.heap.size w w' := by
  obtain ⟨a0, a1, a2, a3, a4, a5⟩ := x
  obtain ⟨b0, b1, b2, b3, b4, b5⟩ := y
  obtain rfl : a5 = [] := hx.kids
  obtain rfl : b5 = [] := hy.kids
  have H1 := Lib.hid h1
  have H2 := Lib.hid h2
  obtain ⟨A2, c2, A5, c5, e1, _⟩ := h1.open
  obtain ⟨B2, d2, B5, d5, e2, _⟩ := h2.open
  dsimp only [List.length_nil] at e1 e2
  subst e1 e2
  have hkx : a0 = (s.kind : Int) := hx.kind
  have hky : b0 = (t.kind : Int) := hy.kind
  obtain ⟨nx, hnx⟩ : ∃ n, isNum ⟨a0, a1, a2, a3, a4, []⟩ = n := ⟨_, rfl⟩
  obtain ⟨ny, hny⟩ : ∃ n, isNum ⟨b0, b1, b2, b3, b4, []⟩ = n := ⟨_, rfl⟩
  have HN1 : Hid (∀ W, Below w.heap.size w W → Calls Tryz.prog 31 #[.agg #[.int .i64 a0, .bool a1, .slice A2 a2.length c2, .int .u64 a3, .string a4, .slice A5 0 c5]] W fun e W' => e = .returned (.bool nx) ∧ Below W.heap.size W W') := Lib.hid fun W hW => by rw [← hnx]; exact number_c _ ⟨a0, a1, a2, a3, a4, []⟩ W (H1.out.below hW)
  have HN2 : Hid (∀ W, Below w.heap.size w W → Calls Tryz.prog 31 #[.agg #[.int .i64 b0, .bool b1, .slice B2 b2.length d2, .int .u64 b3, .string b4, .slice B5 0 d5]] W fun e W' => e = .returned (.bool ny) ∧ Below W.heap.size W W') := Lib.hid fun W hW => by rw [← hny]; exact number_c _ ⟨b0, b1, b2, b3, b4, []⟩ W (H2.out.below hW)
  obtain ⟨W, hW⟩ : ∃ W, W = (w.alloc (.cells #[.int .i64 a0, .bool a1, .slice A2 a2.length c2, .int .u64 a3, .string a4, .slice A5 0 c5] 26)).alloc (.cells #[.int .i64 b0, .bool b1, .slice B2 b2.length d2, .int .u64 b3, .string b4, .slice B5 0 d5] 26) := ⟨_, rfl⟩
  have HT : Hid (TB w #[.int .i64 a0, .bool a1, .slice A2 a2.length c2, .int .u64 a3, .string a4, .slice A5 0 c5] #[.int .i64 b0, .bool b1, .slice B2 b2.length d2, .int .u64 b3, .string b4, .slice B5 0 d5] W) := by rw [hW]; exact Lib.hid (tb_start w _ _)
  by_cases hb : nx = true ∧ ny = true
  · obtain ⟨rfl, rfl⟩ := hb
    have HC : Hid (∀ W, Below w.heap.size w W → Calls Tryz.prog 33 #[.agg #[.int .i64 a0, .bool a1, .slice A2 a2.length c2, .int .u64 a3, .string a4, .slice A5 0 c5], .agg #[.int .i64 b0, .bool b1, .slice B2 b2.length d2, .int .u64 b3, .string b4, .slice B5 0 d5]] W fun e W' => e = .returned (.int .i64 (ncmp ⟨a0, a1, a2, a3, a4, []⟩ ⟨b0, b1, b2, b3, b4, []⟩)) ∧ Below W.heap.size W W') := Lib.hid fun W hW => cmpNumbers_c _ _ _ _ W (H1.out.below hW) (H2.out.below hW) hx.leaf hy.leaf hnx hny
    have HE := Lib.hid (canon_ncmp hx hy hnx hny)
    obtain ⟨r, hr⟩ : ∃ r, ncmp ⟨a0, a1, a2, a3, a4, []⟩ ⟨b0, b1, b2, b3, b4, []⟩ = r := ⟨_, rfl⟩
    rw [hr] at HC HE
    clear hr h1 h2 hx hy hkx hky hnx hny
    go_enter Tryz.func30, Tryz.ntmps30
    go_wp2_with fail
    rw [← hW]
    clear hW
    obtain ⟨x0, x1, x2, x3, x4, x5⟩ := cells6 HT.out.b1
    obtain ⟨y0, y1, y2, y3, y4, y5⟩ := cells6 HT.out.b2
    go_wp2_with (first
      | (go_at_call 31; (with_reducible refine (HN1.out _ HT.out.low).mono ?_); rintro e w1 ⟨rfl, hbw1⟩; (replace HT := Lib.hid (HT.out.below hbw1)); clear x0 x1 x2 x3 x4 x5 y0 y1 y2 y3 y4 y5; obtain ⟨x0, x1, x2, x3, x4, x5⟩ := cells6 HT.out.b1; obtain ⟨y0, y1, y2, y3, y4, y5⟩ := cells6 HT.out.b2; clear hbw1)
      | (go_at_call 31; (with_reducible refine (HN2.out _ HT.out.low).mono ?_); rintro e w2 ⟨rfl, hbw2⟩; (replace HT := Lib.hid (HT.out.below hbw2)); clear x0 x1 x2 x3 x4 x5 y0 y1 y2 y3 y4 y5; obtain ⟨x0, x1, x2, x3, x4, x5⟩ := cells6 HT.out.b1; obtain ⟨y0, y1, y2, y3, y4, y5⟩ := cells6 HT.out.b2; clear hbw2)
      | (go_at_call 33; (with_reducible refine (HC.out _ HT.out.low).mono ?_); rintro e w3 ⟨rfl, hbw3⟩; (replace HT := Lib.hid (HT.out.below hbw3)); clear x0 x1 x2 x3 x4 x5 y0 y1 y2 y3 y4 y5; obtain ⟨x0, x1, x2, x3, x4, x5⟩ := cells6 HT.out.b1; obtain ⟨y0, y1, y2, y3, y4, y5⟩ := cells6 HT.out.b2; clear hbw3))
    go_ret
    exact ⟨by rw [← HE.out]; rfl, HT.out.low⟩
  · have hk1 := canon_num hx
    have hk2 := canon_num hy
    rw [hnx] at hk1
    rw [hny] at hk2
    by_cases hk : s.kind = t.kind
    · have hnxy : nx = ny := by rw [hk1, hk2, hk]
      subst hnxy
      obtain rfl : nx = false := by cases nx; rfl; exact absurd ⟨rfl, rfl⟩ hb
      have e0 : b0 = a0 := by rw [hkx, hky, hk]
      subst e0
      have h2k : s.kind ≠ 2 ∧ s.kind ≠ 3 := by simpa using hk1.symm
      clear hb hk1 hk2
      by_cases k0 : b0 = 0
      · have HE : Hid (eqS s t = true) := by
          refine Lib.hid ?_
          cases s <;> simp [Sca.kind] at hkx <;> first | omega | skip
          cases t <;> simp [Sca.kind] at hky <;> first | omega | rfl
        have ek : (b0 == 0) = true := by rw [k0]; rfl
        clear h1 h2 hx hy hkx hky hnx hny hk h2k k0
        go_enter Tryz.func30, Tryz.ntmps30
        go_wp2_with fail
        rw [← hW]
        clear hW
        obtain ⟨x0, x1, x2, x3, x4, x5⟩ := cells6 HT.out.b1
        obtain ⟨y0, y1, y2, y3, y4, y5⟩ := cells6 HT.out.b2
        go_wp2_with (first | (go_at_call 31; (with_reducible refine (HN1.out _ HT.out.low).mono ?_); rintro e w1 ⟨rfl, hbw1⟩; (replace HT := Lib.hid (HT.out.below hbw1)); clear x0 x1 x2 x3 x4 x5 y0 y1 y2 y3 y4 y5; obtain ⟨x0, x1, x2, x3, x4, x5⟩ := cells6 HT.out.b1; obtain ⟨y0, y1, y2, y3, y4, y5⟩ := cells6 HT.out.b2; clear hbw1))
        go_ret
        exact ⟨by rw [HE.out]; rfl, HT.out.low⟩
      · have ek : (b0 == 0) = false := by simp [k0]
        by_cases k1 : b0 = 1
        · have HE : Hid ((a3 == b3) = eqS s t) := by
            refine Lib.hid ?_
            cases s <;> simp [Sca.kind] at hkx <;> first | omega | skip
            cases t <;> simp [Sca.kind] at hky <;> first | omega | skip
            rename_i p q
            have p3 : a3 = if p then 1 else 0 := (canon_bool hx).2
            have q3 : b3 = if q then 1 else 0 := (canon_bool hy).2
            rw [p3, q3]
            cases p <;> cases q <;> rfl
          have em : (b0 == 1) = true := by rw [k1]; rfl
          clear h1 h2 hx hy hkx hky hnx hny hk h2k k0 k1
          go_enter Tryz.func30, Tryz.ntmps30
          go_wp2_with fail
          rw [← hW]
          clear hW
          obtain ⟨x0, x1, x2, x3, x4, x5⟩ := cells6 HT.out.b1
          obtain ⟨y0, y1, y2, y3, y4, y5⟩ := cells6 HT.out.b2
          go_wp2_with (first | (go_at_call 31; (with_reducible refine (HN1.out _ HT.out.low).mono ?_); rintro e w1 ⟨rfl, hbw1⟩; (replace HT := Lib.hid (HT.out.below hbw1)); clear x0 x1 x2 x3 x4 x5 y0 y1 y2 y3 y4 y5; obtain ⟨x0, x1, x2, x3, x4, x5⟩ := cells6 HT.out.b1; obtain ⟨y0, y1, y2, y3, y4, y5⟩ := cells6 HT.out.b2; clear hbw1))
          go_ret
          exact ⟨by rw [← HE.out]; rfl, HT.out.low⟩
        · have em : (b0 == 1) = false := by simp [k1]
          have HE : Hid ((a4.toList == b4.toList) = eqS s t) := by
            refine Lib.hid ?_
            rw [beqL]
            cases s <;> simp [Sca.kind] at hkx h2k <;> first | omega | skip
            · cases t <;> simp [Sca.kind] at hky hk
              rename_i p q
              have p4 : a4 = p := (canon_str hx).2
              have q4 : b4 = q := (canon_str hy).2
              rw [p4, q4]; rfl
            · cases t <;> simp [Sca.kind] at hky hk
              rename_i p q
              have p4 : a4 = p := (canon_bytes hx).2
              have q4 : b4 = q := (canon_bytes hy).2
              rw [p4, q4, eqS_bytes]
          have k8 : b0 < 6 := by cases s <;> simp [Sca.kind] at hkx <;> omega
          have e8 : (b0 == 8) = false := by simp; omega
          have e9 : (b0 == 9) = false := by simp; omega
          clear h1 h2 hx hy hkx hky hnx hny hk h2k k0 k1 k8
          go_enter Tryz.func30, Tryz.ntmps30
          go_wp2_with fail
          rw [← hW]
          clear hW
          obtain ⟨x0, x1, x2, x3, x4, x5⟩ := cells6 HT.out.b1
          obtain ⟨y0, y1, y2, y3, y4, y5⟩ := cells6 HT.out.b2
          go_wp2_with (first | (go_at_call 31; (with_reducible refine (HN1.out _ HT.out.low).mono ?_); rintro e w1 ⟨rfl, hbw1⟩; (replace HT := Lib.hid (HT.out.below hbw1)); clear x0 x1 x2 x3 x4 x5 y0 y1 y2 y3 y4 y5; obtain ⟨x0, x1, x2, x3, x4, x5⟩ := cells6 HT.out.b1; obtain ⟨y0, y1, y2, y3, y4, y5⟩ := cells6 HT.out.b2; clear hbw1))
          go_loopw [7] (fun i wr => i = .int .i64 0 ∧ wr = w1) (fun _ _ => 0)
          case atStart => exact ⟨rfl, rfl⟩
          case round =>
            obtain ⟨rfl, rfl⟩ := hrel
            go_wp2
            go_ret
            exact ⟨by rw [← HE.out]; rfl, HT.out.low⟩
    · have HE : Hid (eqS s t = false) := Lib.hid (eqS_other hk (fun ⟨q1, q2⟩ => hb ⟨by rw [hk1]; rcases q1 with q | q <;> simp [q], by rw [hk2]; rcases q2 with q | q <;> simp [q]⟩))
      have en : (a0 == b0) = false := by rw [hkx, hky]; simp; omega
      cases nx
      · clear h1 h2 hx hy hkx hky hnx hny hk hb hk1 hk2
        go_enter Tryz.func30, Tryz.ntmps30
        go_wp2_with fail
        rw [← hW]
        clear hW
        obtain ⟨x0, x1, x2, x3, x4, x5⟩ := cells6 HT.out.b1
        obtain ⟨y0, y1, y2, y3, y4, y5⟩ := cells6 HT.out.b2
        go_wp2_with (first | (go_at_call 31; (with_reducible refine (HN1.out _ HT.out.low).mono ?_); rintro e w1 ⟨rfl, hbw1⟩; (replace HT := Lib.hid (HT.out.below hbw1)); clear x0 x1 x2 x3 x4 x5 y0 y1 y2 y3 y4 y5; obtain ⟨x0, x1, x2, x3, x4, x5⟩ := cells6 HT.out.b1; obtain ⟨y0, y1, y2, y3, y4, y5⟩ := cells6 HT.out.b2; clear hbw1))
        go_ret
        exact ⟨by rw [HE.out]; rfl, HT.out.low⟩
      · obtain rfl : ny = false := by cases ny; rfl; exact absurd ⟨rfl, rfl⟩ hb
        clear h1 h2 hx hy hkx hky hnx hny hk hb hk1 hk2
        go_enter Tryz.func30, Tryz.ntmps30
        go_wp2_with fail
        rw [← hW]
        clear hW
        obtain ⟨x0, x1, x2, x3, x4, x5⟩ := cells6 HT.out.b1
        obtain ⟨y0, y1, y2, y3, y4, y5⟩ := cells6 HT.out.b2
        go_wp2_with (first
          | (go_at_call 31; (with_reducible refine (HN1.out _ HT.out.low).mono ?_); rintro e w1 ⟨rfl, hbw1⟩; (replace HT := Lib.hid (HT.out.below hbw1)); clear x0 x1 x2 x3 x4 x5 y0 y1 y2 y3 y4 y5; obtain ⟨x0, x1, x2, x3, x4, x5⟩ := cells6 HT.out.b1; obtain ⟨y0, y1, y2, y3, y4, y5⟩ := cells6 HT.out.b2; clear hbw1)
          | (go_at_call 31; (with_reducible refine (HN2.out _ HT.out.low).mono ?_); rintro e w2 ⟨rfl, hbw2⟩; (replace HT := Lib.hid (HT.out.below hbw2)); clear x0 x1 x2 x3 x4 x5 y0 y1 y2 y3 y4 y5; obtain ⟨x0, x1, x2, x3, x4, x5⟩ := cells6 HT.out.b1; obtain ⟨y0, y1, y2, y3, y4, y5⟩ := cells6 HT.out.b2; clear hbw2))
        go_ret
        exact ⟨by rw [HE.out]; rfl, HT.out.low⟩
end Go.Proofs.YtkplnbjgkhmbcaaGreatDoor

namespace Go.Proofs.YtkplnbjgkhmbcaaGreatDoor
open Go.RowKit Go.Shelf Go.Proofs.YtkplnbjgkhmbcaaGreatDoorW.PrintWords Go.Proofs.YtkplnbjgkhmbcaaGreatDoorW.PrintLast Go.Proofs.YtkplnbjgkhmbcaaGreatDoorW.PrintMore Go.Proofs.YtkplnbjgkhmbcaaGreatDoor.PFnCompare Go.Proofs.YtkplnbjgkhmbcaaGreatDoor.PCmp Go.Proofs.YtkplnbjgkhmbcaaGreatDoor.PbytesOf Go.Proofs.YtkplnbjgkhmbcaaGreatDoor.Pcmp
set_option linter.unusedVariables false
set_option linter.unusedSimpArgs false

/-- What spec.Find answers. -/
def FindR (w : World) (ss : List Sca) (t : Sca) (e : Ending) (w' : World) : Prop :=
  Below w.heap.size w w' ∧ (((∀ j, j < ss.length → qOf ss t j = false) ∧ e = .returned (.int .i64 (-1))) ∨ ∃ j : Nat, FirstAt ss t j ∧ e = .returned (.int .i64 j))
set_option maxRecDepth 100000 in
set_option maxHeartbeats 1000000 in
theorem specFind_c (A : Option Addr) (c : Nat) (xs : List VT) (ss : List Sca) (y : VT) (t : Sca) (v : Value) (w : World) (h : kV.C w A xs.length xs) (hy : VR w v y) (hx : CanonL ss xs) (ht : Canon t y) (hn : xs.length ≤ 1000000) :
    Calls Tryz.prog 53 #[.slice A xs.length c, .int .i64 1, v] w (FindR w ss t) := by
  have HY := Lib.hid hy
  obtain ⟨A2, c2, A5, c5, rfl, _⟩ := hy.open
  obtain ⟨W0, hW0⟩ : ∃ W, W = w.alloc (.cells #[.int .i64 y.f0, .bool y.f1, .slice A2 y.f2.length c2, .int .u64 y.f3, .string y.f4, .slice A5 y.f5.length c5] 26) := ⟨_, rfl⟩
  have HB0 : Hid (Below w.heap.size w W0) := by rw [hW0]; exact Lib.hid ((Below.refl _ w).alloc (Nat.le_refl _) _)
  have HK0 : Hid (W0.heap[w.heap.size]? = some (.cells #[.int .i64 y.f0, .bool y.f1, .slice A2 y.f2.length c2, .int .u64 y.f3, .string y.f4, .slice A5 y.f5.length c5] 26 (0, 0))) := by rw [hW0]; exact Lib.hid (blk_new _ _)
  have HK := Lib.hid (fun i hi => kid_at h i hi rfl)
  have HL := Lib.hid hx.1
  have HE : Hid (∀ W, Below w.heap.size w W → ∀ i (hi : i < xs.length) u, VR W u xs[i] → Calls Tryz.prog 30 #[u, .agg #[.int .i64 y.f0, .bool y.f1, .slice A2 y.f2.length c2, .int .u64 y.f3, .string y.f4, .slice A5 y.f5.length c5]] W fun e W' => e = .returned (.bool (qOf ss t i)) ∧ Below W.heap.size W W') := Lib.hid fun W hW i hi u hu => by
    have hi2 : i < ss.length := by rw [← hx.1]; exact hi
    rw [qOf_at hi2]
    exact specEq_c ss[i] t xs[i] y u _ W hu (HY.out.below hW) (hx.2 i hi hi2) ht
  clear h hy hx ht
  go_enter Tryz.func53, Tryz.ntmps53
  go_wp2_with fail
  rw [← hW0]
  clear hW0
  go_loopw [7] (fun i wr => ∃ j : Nat, j ≤ xs.length ∧ i = .int .i64 (j : Int) ∧ Hid (∀ l, l < j → qOf ss t l = false) ∧ Hid (Below w.heap.size w wr ∧ wr.heap[w.heap.size]? = some (.cells #[.int .i64 y.f0, .bool y.f1, .slice A2 y.f2.length c2, .int .u64 y.f3, .string y.f4, .slice A5 y.f5.length c5] 26 (0, 0)))) (fun i _ => xs.length - (intOf i).toNat)
  case atStart => exact ⟨0, Nat.zero_le _, rfl, Lib.hid fun l h => absurd h (Nat.not_lt_zero _), Lib.hid ⟨HB0.out, HK0.out⟩⟩
  case round =>
    obtain ⟨j, hj, rfl, HQ, HW⟩ := hrel
    by_cases hlt : j < xs.length
    · obtain ⟨b, o, B2, d2, B5, d5, rfl, hb, k0, k1, k2, k3, k4, k5, hV⟩ := HK.out j hlt
      have hB := HW.out.1
      have x0 := (hB.cell (p := ⟨b, o + j * 6, none⟩) hb).trans k0
      have x1 := (hB.cell (p := ⟨b, o + j * 6 + 1, none⟩) hb).trans k1
      have x2 := (hB.cell (p := ⟨b, o + j * 6 + 2, none⟩) hb).trans k2
      have x3 := (hB.cell (p := ⟨b, o + j * 6 + 3, none⟩) hb).trans k3
      have x4 := (hB.cell (p := ⟨b, o + j * 6 + 4, none⟩) hb).trans k4
      have x5 := (hB.cell (p := ⟨b, o + j * 6 + 5, none⟩) hb).trans k5
      have z := cells6 HW.out.2
      have HEj := Lib.hid (fun W (hW : Below w.heap.size w W) => HE.out W hW j hlt _ (hV.below hW))
      clear k0 k1 k2 k3 k4 k5 hV hB
      obtain ⟨qj, hqj⟩ : ∃ b, qOf ss t j = b := ⟨_, rfl⟩
      rw [hqj] at HEj
      have HQJ := Lib.hid hqj
      clear hqj
      go_upto_region 4 with fail
      go_region_held3 (fun W => (W.cell? ⟨b, o + j * 6, none⟩ = some (.int .i64 xs[j].f0) ∧ W.cell? ⟨b, o + j * 6 + 1, none⟩ = some (.bool xs[j].f1) ∧ W.cell? ⟨b, o + j * 6 + 2, none⟩ = some (.slice B2 xs[j].f2.length d2) ∧ W.cell? ⟨b, o + j * 6 + 3, none⟩ = some (.int .u64 xs[j].f3) ∧ W.cell? ⟨b, o + j * 6 + 4, none⟩ = some (.string xs[j].f4) ∧ W.cell? ⟨b, o + j * 6 + 5, none⟩ = some (.slice B5 xs[j].f5.length d5)) ∧ (W.cell? ⟨w.heap.size, 0, none⟩ = some (.int .i64 y.f0) ∧ W.cell? ⟨w.heap.size, 1, none⟩ = some (.bool y.f1) ∧ W.cell? ⟨w.heap.size, 2, none⟩ = some (.slice A2 y.f2.length c2) ∧ W.cell? ⟨w.heap.size, 3, none⟩ = some (.int .u64 y.f3) ∧ W.cell? ⟨w.heap.size, 4, none⟩ = some (.string y.f4) ∧ W.cell? ⟨w.heap.size, 5, none⟩ = some (.slice A5 y.f5.length c5))) (first | (with_reducible exact ⟨⟨r0, r1, r2, r3, r4, r5⟩, q⟩) | (with_reducible exact ⟨⟨x0, x1, x2, x3, x4, x5⟩, z⟩) | exact ⟨⟨x0, x1, x2, x3, x4, x5⟩, z⟩) (first
        | (go_at_call 30; (with_reducible refine (HEj.out _ (by first | (with_reducible exact HW.out.1.drew) | exact HW.out.1.drew)).mono ?_); rintro e w1 ⟨rfl, hb1⟩; have HB1 : Hid (Below w.heap.size w w1 ∧ w1.heap[w.heap.size]? = some (.cells #[.int .i64 y.f0, .bool y.f1, .slice A2 y.f2.length c2, .int .u64 y.f3, .string y.f4, .slice A5 y.f5.length c5] 26 (0, 0))) := Lib.hid ⟨HW.out.1.drew.trans (hb1.mono HW.out.1.size), (hb1.block _ (lt_blk HW.out.2)).trans HW.out.2⟩; have hbw := Nat.lt_of_lt_of_le hb HW.out.1.size; have r0 := (hb1.cell (p := ⟨b, o + j * 6, none⟩) hbw).trans x0; have r1 := (hb1.cell (p := ⟨b, o + j * 6 + 1, none⟩) hbw).trans x1; have r2 := (hb1.cell (p := ⟨b, o + j * 6 + 2, none⟩) hbw).trans x2; have r3 := (hb1.cell (p := ⟨b, o + j * 6 + 3, none⟩) hbw).trans x3; have r4 := (hb1.cell (p := ⟨b, o + j * 6 + 4, none⟩) hbw).trans x4; have r5 := (hb1.cell (p := ⟨b, o + j * 6 + 5, none⟩) hbw).trans x5; have q := cells6 HB1.out.2; clear hb1))
      clear x0 x1 x2 x3 x4 x5 z r0 r1 r2 r3 r4 r5 q
      cases qj
      · go_wp2
        go_roundw
        case rel => exact ⟨j + 1, by omega, by go_num, Lib.hid fun l hl => by rcases Nat.lt_succ_iff_lt_or_eq.1 hl with h | h; exact HQ.out l h; rw [h]; exact HQJ.out, HB1⟩
        case measure => simp [intOf]; omega
      · go_wp2
        go_ret
        exact ⟨HB1.out.1, Or.inr ⟨j, ⟨by rw [← HL.out]; exact hlt, HQJ.out, HQ.out⟩, rfl⟩⟩
    · have hje : j = xs.length := by omega
      subst hje
      go_wp2
      go_ret
      exact ⟨HW.out.1, Or.inl ⟨fun l hl => HQ.out l (by rw [HL.out]; exact hl), rfl⟩⟩
end Go.Proofs.YtkplnbjgkhmbcaaGreatDoor

namespace Go.Proofs.YtkplnbjgkhmbcaaGreatDoor
open Go.RowKit Go.Shelf Go.Proofs.YtkplnbjgkhmbcaaGreatDoorW.PrintWords Go.Proofs.YtkplnbjgkhmbcaaGreatDoorW.PrintLast Go.Proofs.YtkplnbjgkhmbcaaGreatDoorW.PrintMore Go.Proofs.YtkplnbjgkhmbcaaGreatDoor.PFnCompare Go.Proofs.YtkplnbjgkhmbcaaGreatDoor.PCmp Go.Proofs.YtkplnbjgkhmbcaaGreatDoor.PbytesOf Go.Proofs.YtkplnbjgkhmbcaaGreatDoor.Pcmp
set_option linter.unusedVariables false
set_option linter.unusedSimpArgs false

set_option maxRecDepth 100000 in
set_option maxHeartbeats 1000000 in
theorem specSameL_c (A B : Option Addr) (c d : Nat) (xs ys : List VT) (w : World) (h1 : kV.C w A xs.length xs) (h2 : kV.C w B ys.length ys) (hl : ys.length = xs.length) (ha : ∀ i (h1 : i < xs.length) (h2 : i < ys.length), Alike xs[i] ys[i]) (hn : xs.length ≤ 1000000) :
    Calls Tryz.prog 45 #[.slice A xs.length c, .slice B ys.length d] w fun e w' => e = .returned (.bool true) ∧ Below w.heap.size w w' := by
  have HK := Lib.hid (fun i hi => kid_at h1 i hi rfl)
  have HM := Lib.hid (fun i hi => kid_at h2 i hi rfl)
  have HE : Hid (∀ W, Below w.heap.size w W → ∀ i (hi : i < xs.length) (hi2 : i < ys.length) u v, VR W u xs[i] → VR W v ys[i] → Calls Tryz.prog 18 #[u, v] W fun e W' => e = .returned (.bool true) ∧ Below W.heap.size W W') := Lib.hid fun W hW i hi hi2 u v hu hv => specSame_c _ _ u v W hu hv (ha i hi hi2)
  have HL := Lib.hid hl
  rw [hl]
  clear h1 h2 ha hl
  go_enter Tryz.func45, Tryz.ntmps45
  go_wp2_with fail
  go_loopw [5] (fun i wr => ∃ j : Nat, j ≤ xs.length ∧ i = .int .i64 (j : Int) ∧ Hid (Below w.heap.size w wr)) (fun i _ => xs.length - (intOf i).toNat)
  case atStart => exact ⟨0, Nat.zero_le _, rfl, Lib.hid (Below.refl _ _)⟩
  case round =>
    obtain ⟨j, hj, rfl, HW⟩ := hrel
    by_cases hlt : j < xs.length
    · have hlt2 : j < ys.length := by rw [HL.out]; exact hlt
      obtain ⟨b, o, A2, c2, A5, c5, rfl, hb, k0, k1, k2, k3, k4, k5, hV⟩ := HK.out j hlt
      obtain ⟨b', o', B2, d2, B5, d5, rfl, hb', m0, m1, m2, m3, m4, m5, hV'⟩ := HM.out j hlt2
      have hB := HW.out
      have x0 := (hB.cell (p := ⟨b, o + j * 6, none⟩) hb).trans k0
      have x1 := (hB.cell (p := ⟨b, o + j * 6 + 1, none⟩) hb).trans k1
      have x2 := (hB.cell (p := ⟨b, o + j * 6 + 2, none⟩) hb).trans k2
      have x3 := (hB.cell (p := ⟨b, o + j * 6 + 3, none⟩) hb).trans k3
      have x4 := (hB.cell (p := ⟨b, o + j * 6 + 4, none⟩) hb).trans k4
      have x5 := (hB.cell (p := ⟨b, o + j * 6 + 5, none⟩) hb).trans k5
      have y0 := (hB.cell (p := ⟨b', o' + j * 6, none⟩) hb').trans m0
      have y1 := (hB.cell (p := ⟨b', o' + j * 6 + 1, none⟩) hb').trans m1
      have y2 := (hB.cell (p := ⟨b', o' + j * 6 + 2, none⟩) hb').trans m2
      have y3 := (hB.cell (p := ⟨b', o' + j * 6 + 3, none⟩) hb').trans m3
      have y4 := (hB.cell (p := ⟨b', o' + j * 6 + 4, none⟩) hb').trans m4
      have y5 := (hB.cell (p := ⟨b', o' + j * 6 + 5, none⟩) hb').trans m5
      have HEj := Lib.hid (fun W (hW : Below w.heap.size w W) => HE.out W hW j hlt hlt2 _ _ (hV.below hW) (hV'.below hW))
      clear k0 k1 k2 k3 k4 k5 hV hB m0 m1 m2 m3 m4 m5 hV'
      go_upto_region 6 with fail
      go_region_held3 (fun W => (W.cell? ⟨b, o + j * 6, none⟩ = some (.int .i64 xs[j].f0) ∧ W.cell? ⟨b, o + j * 6 + 1, none⟩ = some (.bool xs[j].f1) ∧ W.cell? ⟨b, o + j * 6 + 2, none⟩ = some (.slice A2 xs[j].f2.length c2) ∧ W.cell? ⟨b, o + j * 6 + 3, none⟩ = some (.int .u64 xs[j].f3) ∧ W.cell? ⟨b, o + j * 6 + 4, none⟩ = some (.string xs[j].f4) ∧ W.cell? ⟨b, o + j * 6 + 5, none⟩ = some (.slice A5 xs[j].f5.length c5)) ∧ (W.cell? ⟨b', o' + j * 6, none⟩ = some (.int .i64 ys[j].f0) ∧ W.cell? ⟨b', o' + j * 6 + 1, none⟩ = some (.bool ys[j].f1) ∧ W.cell? ⟨b', o' + j * 6 + 2, none⟩ = some (.slice B2 ys[j].f2.length d2) ∧ W.cell? ⟨b', o' + j * 6 + 3, none⟩ = some (.int .u64 ys[j].f3) ∧ W.cell? ⟨b', o' + j * 6 + 4, none⟩ = some (.string ys[j].f4) ∧ W.cell? ⟨b', o' + j * 6 + 5, none⟩ = some (.slice B5 ys[j].f5.length d5))) (first | (with_reducible exact ⟨⟨r0, r1, r2, r3, r4, r5⟩, ⟨s0, s1, s2, s3, s4, s5⟩⟩) | (with_reducible exact ⟨⟨x0, x1, x2, x3, x4, x5⟩, ⟨y0, y1, y2, y3, y4, y5⟩⟩) | exact ⟨⟨x0, x1, x2, x3, x4, x5⟩, ⟨y0, y1, y2, y3, y4, y5⟩⟩) (first
        | (go_at_call 18; (with_reducible refine (HEj.out _ HW.out.drew).mono ?_); rintro e w1 ⟨rfl, hb1⟩; have HB1 : Hid (Below w.heap.size w w1) := Lib.hid (HW.out.drew.trans (hb1.mono HW.out.size)); have hbw := Nat.lt_of_lt_of_le hb HW.out.size; have hbw' := Nat.lt_of_lt_of_le hb' HW.out.size; have r0 := (hb1.cell (p := ⟨b, o + j * 6, none⟩) hbw).trans x0; have r1 := (hb1.cell (p := ⟨b, o + j * 6 + 1, none⟩) hbw).trans x1; have r2 := (hb1.cell (p := ⟨b, o + j * 6 + 2, none⟩) hbw).trans x2; have r3 := (hb1.cell (p := ⟨b, o + j * 6 + 3, none⟩) hbw).trans x3; have r4 := (hb1.cell (p := ⟨b, o + j * 6 + 4, none⟩) hbw).trans x4; have r5 := (hb1.cell (p := ⟨b, o + j * 6 + 5, none⟩) hbw).trans x5; have s0 := (hb1.cell (p := ⟨b', o' + j * 6, none⟩) hbw').trans y0; have s1 := (hb1.cell (p := ⟨b', o' + j * 6 + 1, none⟩) hbw').trans y1; have s2 := (hb1.cell (p := ⟨b', o' + j * 6 + 2, none⟩) hbw').trans y2; have s3 := (hb1.cell (p := ⟨b', o' + j * 6 + 3, none⟩) hbw').trans y3; have s4 := (hb1.cell (p := ⟨b', o' + j * 6 + 4, none⟩) hbw').trans y4; have s5 := (hb1.cell (p := ⟨b', o' + j * 6 + 5, none⟩) hbw').trans y5; clear hb1))
      clear x0 x1 x2 x3 x4 x5 y0 y1 y2 y3 y4 y5 r0 r1 r2 r3 r4 r5 s0 s1 s2 s3 s4 s5
      go_wp2
      go_roundw
      case rel => exact ⟨j + 1, by omega, by go_num, HB1⟩
      case measure => simp [intOf]; omega
    · have hje : j = xs.length := by omega
      subst hje
      go_wp2
      go_ret
      exact ⟨rfl, HW.out⟩
end Go.Proofs.YtkplnbjgkhmbcaaGreatDoor

namespace Go.Proofs.YtkplnbjgkhmbcaaGreatDoor
open Go.RowKit Go.Shelf Go.Proofs.YtkplnbjgkhmbcaaGreatDoorW.PrintWords Go.Proofs.YtkplnbjgkhmbcaaGreatDoorW.PrintLast Go.Proofs.YtkplnbjgkhmbcaaGreatDoorW.PrintMore Go.Proofs.YtkplnbjgkhmbcaaGreatDoor.PFnCompare Go.Proofs.YtkplnbjgkhmbcaaGreatDoor.PCmp Go.Proofs.YtkplnbjgkhmbcaaGreatDoor.PbytesOf Go.Proofs.YtkplnbjgkhmbcaaGreatDoor.Pcmp
set_option linter.unusedVariables false
set_option linter.unusedSimpArgs false

/-- append of a row that came in, onto a row of one's own. -/
theorem app_rows (u w0 W : World) (v : Value) (ps qs : List VT) (A : Option Addr) (m c : Nat) (hO : OwnRow (kV.K u) 26 6 W w0.heap.size v ps) (hR : ReadsRow (kV.K u) 6 w0 A m qs) (hb : Below w0.heap.size w0 W) (hn : ps.length + m ≤ 1000000) :
    ∃ v1 w1, (Builtin.append_ #[24, 24] 24 #[v, .slice A m c]).run Tryz.prog W = .ok v1 w1 ∧ OwnRow (kV.K u) 26 6 w1 w0.heap.size v1 (ps ++ qs) ∧ Below w0.heap.size w0 w1 := by
  obtain ⟨i0, hi, hz0, hz1, hz2⟩ := info_parts vInfo
  have ht := Tryz.underlying24
  have hm : qs.length = m := hR.1
  have hR2 : ReadsRow (kV.K u) 6 W A m qs := ReadsRow.imp_ hR hb (fun _ _ h => h)
  obtain ⟨inner, hown, hr⟩ := hO
  rcases A with _ | ad
  · have h0 : m = 0 := by
      rcases Nat.eq_zero_or_pos m with h0 | h0
      · exact h0
      · obtain ⟨ad, h, _⟩ := hR2.2.2 h0
        cases h
    subst h0
    obtain rfl : qs = [] := List.eq_nil_of_length_eq_zero hm
    refine ⟨v, W, ?_, by rw [List.append_nil]; exact ⟨inner, hown, hr⟩, hb⟩
    rcases hown.2 with ⟨rfl, hn⟩ | ⟨g, cap, cur, rfl, _, _, hnc, _⟩
    · simp [Builtin.append_, run_underlying ht, sizeOf, typeInfo, hi, Builtin.lenOf, Builtin.firstCells]
    · simp [Builtin.append_, run_underlying ht, sizeOf, typeInfo, hi, Builtin.lenOf, Builtin.firstCells, hnc, storeCells]
  · obtain ⟨news, hnr, hnc⟩ := ReadsRow.inner_ hR2
    have hone : ∀ u ∈ news, u.oneCell' = true := by
      intro u hu
      obtain ⟨q, hq, rfl⟩ := List.mem_iff_getElem.1 hu
      have hql : q / 6 < qs.length := by
        rw [Nat.div_lt_iff_lt_mul (by omega), ← hnr.1]
        exact hq
      have hc := hnr.2 (q / 6) _ (List.getElem?_eq_getElem hql)
      refine kV.K_one hc _ ?_
      rw [List.mem_iff_getElem?]
      refine ⟨q % 6, ?_⟩
      rw [List.getElem?_take, if_pos (Nat.mod_lt _ (by omega)), List.getElem?_drop, Nat.mul_comm, Nat.div_add_mod, List.getElem?_eq_getElem hq]
    obtain ⟨v1, w1, hrun, h2, hg, _, hat⟩ := run_append_own_at (P := Tryz.prog) W w0.heap.size 24 24 26 i0 _ 6 88 ht hi hz0 hz1 hz2 rfl (by omega) v ps.length inner hown ad m c news (by rw [hnr.1, hm]) hnc hone (by simp only [maxLen]; omega) (by omega) hb.size
    exact ⟨v1, w1, hrun, ⟨inner ++ news, by rw [List.length_append, hm]; exact h2, Kd.reps_append hr hnr⟩, hb.grown hg hb.size (own_base hown)⟩
theorem ownRow_nil (u W : World) (B g : Nat) (hB : B ≤ g) (h : W.heap[g]? = some (.cells #[] 26 (0, 0))) : OwnRow (kV.K u) 26 6 W B (.slice (some ⟨g, 0, none⟩) 0 0) [] :=
  ⟨[], ⟨rfl, .inr ⟨g, 0, #[], rfl, hB, h, Nat.le_refl _, by simp [maxLen], rfl, rfl⟩⟩, Reps.none _ _⟩
theorem rr_take {R : VT → List Value → Prop} {size n m : Nat} {w : World} {A : Option Addr} {ps : List VT} (h : ReadsRow R size w A n ps) (hm : m ≤ n) : ReadsRow R size w A m (ps.take m) := by
  have h1 := h.1
  have h2 := h.2.1
  refine ⟨by rw [List.length_take]; omega, by omega, fun h0 => ?_⟩
  obtain ⟨ad, e, hc⟩ := h.2.2 (by omega)
  refine ⟨ad, e, fun j p hj => hc j p ?_⟩
  rw [List.getElem?_take] at hj
  split at hj
  · exact hj
  · cases hj
theorem rr_drop {R : VT → List Value → Prop} {size n m c : Nat} {w : World} {A : Option Addr} {ps : List VT} (h : ReadsRow R size w A n ps) (hm : m ≤ n) (hc : n ≤ c) : ReadsRow R size w (if c = m then A else A.map (·.add (m * size))) (n - m) (ps.drop m) := by
  have h1 := h.1
  have h2 := h.2.1
  refine ⟨by rw [List.length_drop]; omega, by omega, fun h0 => ?_⟩
  obtain ⟨ad, rfl, hcc⟩ := h.2.2 (by omega)
  rw [if_neg (by omega)]
  refine ⟨ad.add (m * size), rfl, fun j p hj => ?_⟩
  rw [List.getElem?_drop] at hj
  obtain ⟨cs, k1, k2, k3⟩ := hcc (m + j) p hj
  refine ⟨cs, k1, k2, fun i u hu => ?_⟩
  have := k3 i u hu
  rw [show (m + j) * size + i = m * size + (j * size + i) by rw [Nat.add_mul]; omega] at this
  rw [add_add]
  exact this
theorem ownRow_reads {u W : World} {B : Nat} {v : Value} {ps : List VT} (h : OwnRow (kV.K u) 26 6 W B v ps) (hb : Below u.heap.size u W) : ∃ A c, v = .slice A ps.length c ∧ ps.length ≤ c ∧ kV.C W A ps.length ps := by
  obtain ⟨A, c, rfl, hl, hr⟩ := OwnRow.reads h
  exact ⟨A, c, rfl, hl, ReadsRow.imp_ hr (Below.refl _ _) (fun _ _ h => kV.K_below hb h)⟩
theorem ownRow_far {u W : World} {B : Nat} {v : Value} {ps : List VT} (h : OwnRow (kV.K u) 26 6 W B v ps) {p : Addr} (hp : p.block < B) (x : Value) : OwnRow (kV.K u) 26 6 (W.setCell p x) B v ps := by
  obtain ⟨inner, ho, hr⟩ := h
  exact ⟨inner, own_move ho (fun k hk => Below.heap_setCell W p x k (by have := own_base ho k hk; omega)), hr⟩
/-- An append whose run is known, as a step of a drawn region. -/
theorem step_append_ex {P : Program} {w : World} {ops : Array Oper} {o : Oper} {a : Act} {K : Act → World → Prop} {Q : Exit → Act → World → Prop} {E : Prop} {R : Value → World → Prop} (hg : o.guard = none) (s x : Operand) (t : TypeId) (hop : o.op = Op.call { callee := Callee.builtin Builtin.append, args := #[s, x], argTypes := #[t, t] })
    (v1 v2 : Value) (hs : a.eval s = v1) (hx : a.eval x = v2) (hrun : ∃ v3 w', (Builtin.append_ #[t, t] o.type #[v1, v2]).run P w = .ok v3 w' ∧ R v3 w') (hK : ∀ v3 w', R v3 w' → K (a.put o.dst v3) w') : if Region.wanted o (yielded ops a.tmps) = true then Oper.wp P o a w K Q else E := by
  have hw : Region.wanted o (yielded ops a.tmps) = true := by simp [Region.wanted, hg]
  rw [if_pos hw]
  obtain ⟨v3, w', hrun, hr⟩ := hrun
  unfold Oper.wp
  simp [execOp, hop, resolve, invoke, builtin, hs, hx, hrun, Result.andThen]
  exact hK _ _ hr
theorem wpList_append_ex {P : Program} {w : World} {ops : Array Oper} {rest : List Oper} {o : Oper} {a : Act} {Q : Exit → Act → World → Prop} {R : Value → World → Prop} (hg : o.guard = none) (s x : Operand) (t : TypeId) (hop : o.op = Op.call { callee := Callee.builtin Builtin.append, args := #[s, x], argTypes := #[t, t] })
    (v1 v2 : Value) (hs : a.eval s = v1) (hx : a.eval x = v2) (hrun : ∃ v3 w', (Builtin.append_ #[t, t] o.type #[v1, v2]).run P w = .ok v3 w' ∧ R v3 w') (hK : ∀ v3 w', R v3 w' → wpList P ops Q rest (a.put o.dst v3) w') : wpList P ops Q (o :: rest) a w := by
  obtain ⟨v3, w', hrun, hr⟩ := hrun
  exact wpList_append_run hg s x t hop v1 v2 v3 hs hx hrun (hK _ _ hr)

set_option maxRecDepth 100000 in
theorem without_c (u : World) (A : Option Addr) (c : Nat) (xs : List VT) (k : Nat) (w : World) (h : ReadsRow (kV.K u) 6 w A xs.length xs) (hc : xs.length ≤ c) (hk : k < xs.length) (hn : xs.length ≤ 1000000) :
    Calls Tryz.prog 88 #[.slice A xs.length c, .int .i64 k, .int .i64 1] w fun e w' => ∃ A' c', e = .returned (.slice A' (xs.eraseIdx k).length c') ∧ OwnRow (kV.K u) 26 6 w' w.heap.size (.slice A' (xs.eraseIdx k).length c') (xs.eraseIdx k) ∧ Below w.heap.size w w' := by
  obtain ⟨i0, hi, hz0, hz1, hz2⟩ := info_parts vInfo
  have ht := Tryz.underlying24
  have hs1 := cut_to 24 26 .i64 ht hi A xs.length c (k : Int) (by omega) (by omega) hc
  have hs2 := cut_from 24 26 .i64 ht hi 6 hz1 A xs.length c ((k : Int) + 1) (by omega) (by omega)
  have e1 : ((k : Int) + 1).toNat = k + 1 := by omega
  rw [Int.toNat_natCast] at hs1
  rw [e1] at hs2
  have ct := rr_take h (m := k) (by omega)
  have cd := rr_drop h (m := k + 1) (by omega) hc
  have lt : (xs.take k).length = k := by rw [List.length_take]; omega
  have ld : (xs.drop (k + 1)).length = xs.length - (k + 1) := by simp
  obtain ⟨A2, hA2⟩ : ∃ A2 : Option Addr, A2 = (if c = k + 1 then A else A.map (·.add ((k + 1) * 6))) := ⟨_, rfl⟩
  rw [← hA2] at hs2
  have cd2 : ReadsRow (kV.K u) 6 w A2 (xs.length - (k + 1)) (xs.drop (k + 1)) := by rw [hA2]; exact cd
  have HA1 : Hid (∀ W, W.heap[w.heap.size]? = some (.cells #[] 26 (0, 0)) → Below w.heap.size w W → ∃ v1 w1, (Builtin.append_ #[24, 24] 24 #[.slice (some ⟨w.heap.size, 0, none⟩) 0 0, .slice A k c]).run Tryz.prog W = .ok v1 w1 ∧ (OwnRow (kV.K u) 26 6 w1 w.heap.size v1 (xs.take k) ∧ Below w.heap.size w w1)) := Lib.hid fun W hW hb => by
    have := app_rows u w W _ [] (xs.take k) A k c (ownRow_nil u W _ _ (Nat.le_refl _) hW) ct hb (by simp; omega)
    rwa [List.nil_append] at this
  have HA2 : Hid (∀ W v1, OwnRow (kV.K u) 26 6 W w.heap.size v1 (xs.take k) ∧ Below w.heap.size w W → ∃ v2 w2, (Builtin.append_ #[24, 24] 24 #[v1, .slice A2 (xs.length - (k + 1)) (c - (k + 1))]).run Tryz.prog W = .ok v2 w2 ∧ (OwnRow (kV.K u) 26 6 w2 w.heap.size v2 (xs.eraseIdx k) ∧ Below w.heap.size w w2)) := Lib.hid fun W v1 ⟨ho, hb⟩ => by
    have := app_rows u w W v1 (xs.take k) (xs.drop (k + 1)) A2 _ (c - (k + 1)) ho cd2 hb (by rw [lt]; omega)
    rwa [← List.eraseIdx_eq_take_drop_succ] at this
  have hwr : IntKind.i64.wrap ((k : Int) + 1) = (k : Int) + 1 := by rw [IntKind.wrap_i64]; omega
  clear h ct cd cd2 hA2 lt ld hz0 hz1 hz2 hi e1 ht
  go_enter Tryz.func88, Tryz.ntmps88
  go_upto_region 1 with fail
  go_region_held3 (fun _ => True) (trivial) (first
    | (refine step_append_ex rfl (.tmp 7) (.tmp 10) 24 rfl _ _ (by simp [Act.eval, Act.put]) (by simp [Act.eval, Act.put]) (HA1.out _ (by first | exact blk_new _ _ | exact blk_new w.drew _) (by first | exact (Below.refl _ w).drew.alloc (Nat.le_refl _) _ | exact ((Below.refl _ w).alloc (Nat.le_refl _) _).drew)) ?_; intro v1 w1 ho1; have HO1 := Lib.hid ho1; clear ho1)
    | (refine step_append_ex rfl (.tmp 11) (.tmp 16) 24 rfl _ _ (by simp [Act.eval, Act.put]) (by simp [Act.eval, Act.put]) (HA2.out _ _ HO1.out) ?_; intro v2 w2 ho2; have HO2 := Lib.hid ho2; clear ho2))
  go_wp2
  go_ret
  obtain ⟨ho, hb⟩ := HO2.out
  obtain ⟨A', c', rfl, h1, h2⟩ := OwnRow.reads ho
  exact ⟨A', c', rfl, ho, hb⟩
end Go.Proofs.YtkplnbjgkhmbcaaGreatDoor
