/- Words times words: basicMul, mul. -/
import Derived.Test.YtkplnbjgkhmbcaaGreatDoorM13
namespace Go.Proofs.YtkplnbjgkhmbcaaGreatDoor
open Go.RowKit Go.Shelf Go.Proofs.YtkplnbjgkhmbcaaGreatDoorW.PrintWords Go.Proofs.YtkplnbjgkhmbcaaGreatDoorW.PrintLast Go.Proofs.YtkplnbjgkhmbcaaGreatDoorW.PrintMore
set_option linter.unusedVariables false
set_option linter.unusedSimpArgs false

set_option maxRecDepth 100000 in
theorem addMulVVWW_c (g b o c1 c2 c i : Nat) (xs D0 : List Int) (d : Int) (w : World) (hi : i + xs.length ≤ D0.length) (hw0 : Words D0) (hr : IRow .u64 w g D0) (hx : Words xs) (hmax : xs.length ≤ 1000000) (hmi : i ≤ 1000000)
    (hcell : ∀ j (h : j < xs.length), w.cell? ⟨b, o + j, none⟩ = some (.int .u64 xs[j])) (hb : b < g) (hd : 0 ≤ d ∧ d < 18446744073709551616) :
    Calls Tryz.prog 185 #[.slice (some ⟨g, i, none⟩) xs.length c1, .slice (some ⟨g, i, none⟩) xs.length c2, .slice (some ⟨b, o, none⟩) xs.length c, .int .u64 d, .int .u64 0] w fun e w' =>
      ∃ D cc, e = .returned (.int .u64 cc) ∧ AM xs D0 i d xs.length D cc ∧ IRow .u64 w' g D ∧ Below g w w' := by
  have HC := Lib.hid (addMulVVWW_g_c g b o c1 c2 c i xs D0 d w hi hw0 hr hx hmax hmi hcell hb hd)
  clear hcell hx hr hw0 hd hi
  go_enter Tryz.func185, Tryz.ntmps185
  go_wp2_with (go_at_call 212; with_reducible refine HC.out.mono ?_; rintro e w2 ⟨D, cc, rfl, h1, h2, h3⟩; have H1 := Lib.hid h1; have H2 := Lib.hid h2; have H3 := Lib.hid h3; clear h1 h2 h3)
  go_ret
  exact ⟨D, cc, rfl, H1.out, H2.out, H3.out⟩

theorem zeroWord (w : World) : (zeroValue 265).run Tryz.prog w = .ok (.int .u64 0) w := by kernel_rfl
/-- clear of a row of the call's own. -/
theorem clear_row (w : World) (g n c : Nat) (l : List Int) (hn : 0 < n) (hl : l.length = n) (hr : IRow .u64 w g l) :
    ∃ w2, (∀ ty : TypeId, (Builtin.clear_ #[194] ty #[.slice (some ⟨g, 0, none⟩) n c]).run Tryz.prog w = .ok (.tuple #[]) w2) ∧ IRow .u64 w2 g (List.replicate n 0) ∧ (∀ B W, B ≤ g → Below B W w → Below B W w2) ∧ w2.heap.size = w.heap.size := by
  have hm : List.replicate n (Value.int .u64 0) = (List.replicate n (0 : Int)).map (Value.int .u64) := by simp
  refine ⟨w.setCells g 0 (List.replicate n (.int .u64 0)), fun ty => ?_, ?_, fun B W hB hb => below_setCells hB _ _ _ hb, size_setCells _ _ _ _⟩
  · refine Lib.run_clear_slice w _ 265 ty (.int .u64 0) Tryz.underlying194 zeroWord rfl rfl g 0 n c hn ?_ ?_
    · intro j hj
      rw [Nat.zero_add, hr.1 j (by omega)]; rfl
    · intro j hj
      rw [Nat.zero_add]; exact hr.2 j (by omega)
  · rw [hm]
    exact irow_setCells hr (by simp [hl])

set_option maxRecDepth 100000 in
set_option maxHeartbeats 4000000 in
theorem basicMul_c (g b o b2 o2 c1 c c2 : Nat) (xs ys l0 : List Int) (w : World) (hl : l0.length = xs.length + ys.length) (hr : IRow .u64 w g l0) (hx : Words xs) (hy : Words ys) (hxm : xs.length ≤ 100000) (hym : ys.length ≤ 100000) (hx0 : 0 < xs.length)
    (hcx : ∀ j (h : j < xs.length), w.cell? ⟨b, o + j, none⟩ = some (.int .u64 xs[j])) (hb : b < g)
    (hcy : ∀ j (h : j < ys.length), w.cell? ⟨b2, o2 + j, none⟩ = some (.int .u64 ys[j])) (hb2 : b2 < g) (hc1 : xs.length + ys.length ≤ c1) :
    Calls Tryz.prog 165 #[.slice (some ⟨g, 0, none⟩) (xs.length + ys.length) c1, .slice (some ⟨b, o, none⟩) xs.length c, .slice (some ⟨b2, o2, none⟩) ys.length c2] w fun e w' =>
      e = .returned (.tuple #[]) ∧ (∃ D, BM xs ys ys.length D ∧ IRow .u64 w' g D) ∧ Below g w w' := by
  obtain ⟨n, hn⟩ : ∃ n, xs.length + ys.length = n := ⟨_, rfl⟩
  obtain ⟨w2, hcl, hr2, hb2', hs2⟩ := clear_row w g n c1 l0 (by omega) (by omega) hr
  have HR2 := Lib.hid hr2
  have HB2 := Lib.hid (hb2' g w (Nat.le_refl _) (Below.refl _ _))
  rw [hn] at hc1 ⊢
  have HNN := Lib.hid hn
  have hni : ((xs.length : Int) + (ys.length : Int)) = (n : Int) := by omega
  have hn0 : (n : Int) ≤ (c1 : Int) := by omega
  have HCX := Lib.hid hcx
  have HCY := Lib.hid hcy
  have HW := Lib.hid (And.intro hx hy)
  clear hr hr2 hb2' hs2 hcx hcy hx hy hl hn
  go_enter Tryz.func165, Tryz.ntmps165
  go_wp2
  go_loopw [17] (fun d wr => ∃ (i : Nat) (D : List Int), i ≤ ys.length ∧ d = .int .i64 (i : Int) ∧ Hid (BM xs ys i D) ∧ Hid (IRow .u64 wr g D) ∧ Hid (Below g w wr)) (fun d _ => ys.length - (intOf d).toNat)
  case atStart => exact ⟨0, _, Nat.zero_le _, rfl, Lib.hid (by rw [← HNN.out]; exact bm_start xs ys), HR2, HB2⟩
  case round =>
    obtain ⟨i, D, hi, rfl, HBM, HD, HB⟩ := hrel
    by_cases hlt : i < ys.length
    · have hyi := (HB.out.cell (p := ⟨b2, o2 + i, none⟩) hb2).trans (HCY.out i hlt)
      have hyw := HW.out.2 _ (List.getElem_mem hlt)
      by_cases hz : ys[i] = 0
      · have HS := Lib.hid (bm_skip HBM.out hlt hz)
        have hzb : (ys[i] != 0) = false := by simp [hz]
        generalize ys[i] = d at hyi hzb
        clear hz
        go_wp2
        go_roundw
        case rel => exact ⟨i + 1, D, by omega, by go_num, HS, HD, HB⟩
        case measure => simp [intOf]; omega
      · have hzb : (ys[i] != 0) = true := by simp [hz]
        have hDl := HBM.out.len
        have HAM := Lib.hid (fun c3 c4 W (hB : Below g w W) (hD : IRow .u64 W g D) => addMulVVWW_c g b o c3 c4 c i xs D ys[i] W (by omega) HBM.out.words hD HW.out.1 (by omega) (by omega) (fun j hj => (hB.cell (p := ⟨b, o + j, none⟩) hb).trans (HCX.out j hj)) hb hyw)
        have HST := Lib.hid (fun D' cc (h : AM xs D i ys[i] xs.length D' cc) => bm_step HBM.out hlt h)
        obtain ⟨k, hk⟩ : ∃ k, xs.length + i = k := ⟨_, rfl⟩
        have hkl : i ≤ k ∧ k < n := by have := HNN.out; omega
        have HK := Lib.hid (And.intro hk hkl)
        have k1 : (xs.length : Int) + (i : Int) = (k : Int) := by omega
        have k2 : (i : Int) + (xs.length : Int) = (k : Int) := by omega
        have k3 : (i : Int) ≤ (k : Int) := by omega
        have k4 : (k : Int) ≤ (c1 : Int) := by omega
        have k5 : (k : Int) < (n : Int) := by omega
        have k6 : k - i = xs.length := by omega
        have k7 : ¬ c1 = i := by omega
        have k8 : IntKind.i64.wrap (k : Int) = (k : Int) := IntWalk.i64_in _ (by omega)
        have k9 : IntKind.i64.wrap ((xs.length : Int) + (i : Int)) = (k : Int) := by rw [k1]; exact k8
        have k10 : IntKind.i64.wrap ((i : Int) + (xs.length : Int)) = (k : Int) := by rw [k2]; exact k8
        have k11 : (0 : Int) ≤ (i : Int) := by omega
        have k12 : (0 : Int) ≤ (k : Int) := by omega
        rw [hk] at HST
        generalize ys[i] = d at hyi hzb HAM HST hyw
        have HDL := Lib.hid hDl
        clear hz hk hkl hDl
        go_wp2_with fail
        go_region_with (go_at_call 185; with_reducible refine (HAM.out _ _ _ HB.out.drew HD.out.drew).mono ?_; rintro e w3 ⟨D', cc, rfl, h1, h2, h3⟩; have HS := Lib.hid (HST.out D' cc h1); have hkD : k < D'.length := (by have := h1.len; have := HDL.out; have := HNN.out; have := HK.out.2; omega); obtain ⟨q1, q2, q3, q4⟩ := irow_step (v := cc) h2 hkD (HB.out.drew.trans h3) (Nat.le_refl _); have Q3 := Lib.hid q3; have Q4 := Lib.hid q4; clear h1 h2 h3 q3 q4)
        all_goals go_wp2_with fail
        all_goals go_roundw
        case rel => exact ⟨i + 1, _, by omega, by go_num, HS, Q3, Q4⟩
        case measure => simp [intOf]; omega
    · have hie : i = ys.length := by omega
      subst hie
      go_wp2
      go_end0
      exact ⟨rfl, ⟨D, HBM.out, HD.out⟩, HB.out⟩
end Go.Proofs.YtkplnbjgkhmbcaaGreatDoor
