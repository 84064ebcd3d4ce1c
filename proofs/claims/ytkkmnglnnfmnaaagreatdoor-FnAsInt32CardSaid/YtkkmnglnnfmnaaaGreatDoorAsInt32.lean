/- The law FnAsInt32, walked: it returns true. -/
import Derived.Test.YtkkmnglnnfmnaaaGreatDoorInt5
import Derived.Deep.DeepCutAuto
import Derived.Deep.RegionHeld3
namespace Go.Proofs.YtkkmnglnnfmnaaaGreatDoor
open Go.RowKit Go.Proofs.YtkkmnglnnfmnaaaGreatDoorW.PrintWords Go.Proofs.YtkkmnglnnfmnaaaGreatDoorW.PrintLast Go.Proofs.YtkkmnglnnfmnaaaGreatDoorW.PrintMore
set_option linter.unusedVariables false
set_option linter.unusedSimpArgs false

/-- The law's two boxes, while the rest grows. -/
structure LX (w0 : World) (n : Bool) (s v2 : Value) (l : List Int) (A5 : Option Addr) (c5 g : Nat) (w : World) : Prop where
  b1 : w.heap[g]? = some (.cells #[.bool n, s] 24 (0, 0))
  b2 : w.heap[g + 1]? = some (.cells #[.int .i64 2, .bool n, v2, .int .u64 0, .string ⟨#[]⟩, .slice A5 0 c5] 28 (0, 0))
  low : Below w0.heap.size w0 w
  s1 : Sl .u8 w0.heap.size w s l
  s2 : Sl .u8 w0.heap.size w v2 l
section
variable {w0 w w' : World} {n : Bool} {s v2 : Value} {l : List Int} {A5 : Option Addr} {c5 g : Nat}
theorem LX.below (h : LX w0 n s v2 l A5 c5 g w) (hb : Below w.heap.size w w') : LX w0 n s v2 l A5 c5 g w' :=
  ⟨blk_below h.b1 hb, blk_below h.b2 hb, h.low.trans (hb.mono h.low.size), h.s1.below hb, h.s2.below hb⟩
theorem LX.drew (h : LX w0 n s v2 l A5 c5 g w) : LX w0 n s v2 l A5 c5 g w.drew := ⟨h.b1, h.b2, h.low.drew, h.s1, h.s2⟩
theorem LX.cells (h : LX w0 n s v2 l A5 c5 g w) : w.cell? ⟨g, 0, none⟩ = some (.bool n) ∧ w.cell? ⟨g, 1, none⟩ = some s :=
  ⟨blk_cell h.b1 0 _ rfl, blk_cell h.b1 1 _ rfl⟩
theorem LX.cells2 (h : LX w0 n s v2 l A5 c5 g w) : w.cell? ⟨g + 1, 0, none⟩ = some (.int .i64 2) ∧ w.cell? ⟨g + 1, 1, none⟩ = some (.bool n) ∧ w.cell? ⟨g + 1, 2, none⟩ = some v2 ∧ w.cell? ⟨g + 1, 3, none⟩ = some (.int .u64 0) ∧ w.cell? ⟨g + 1, 4, none⟩ = some (.string ⟨#[]⟩) ∧ w.cell? ⟨g + 1, 5, none⟩ = some (.slice A5 0 c5) :=
  ⟨blk_cell h.b2 0 _ rfl, blk_cell h.b2 1 _ rfl, blk_cell h.b2 2 _ rfl, blk_cell h.b2 3 _ rfl, blk_cell h.b2 4 _ rfl, blk_cell h.b2 5 _ rfl⟩
theorem LX.int (h : LX w0 n s v2 l A5 c5 g w) : SInt w0.heap.size w (.agg #[.bool n, s]) n l := ⟨_, rfl, h.s1⟩
end
theorem cmp_ge (x : Int) (h : -2147483648 ≤ x) : ∀ c, sgn (x - -2147483648) = c → (0 : Int) ≤ c := by
  rintro c rfl
  have := sgn_lt (x - -2147483648); have := sgn_vals (x - -2147483648); omega
theorem cmp_lt (x : Int) (h : x < -2147483648) : ∀ c, sgn (x - -2147483648) = c → ¬ (0 : Int) ≤ c := by
  rintro c rfl
  have := sgn_lt (x - -2147483648); omega
theorem cmp_le (x : Int) (h : x ≤ 2147483647) : ∀ c, sgn (x - 2147483647) = c → c ≤ (0 : Int) := by
  rintro c rfl
  have := sgn_gt (x - 2147483647); omega
theorem cmp_gt (x : Int) (h : 2147483647 < x) : ∀ c, sgn (x - 2147483647) = c → ¬ c ≤ (0 : Int) := by
  rintro c rfl
  have := sgn_gt (x - 2147483647); omega

set_option maxRecDepth 100000 in
set_option maxHeartbeats 2000000 in
theorem law_yes (neg : Bool) (B : Nat) (v : Value) (l : List Int) (w : World) (h : Sl .u8 B w v l) (hl : Bytes l) (hlen : l.length ≤ 2147483647)
    (hs : sml (val (neg && decide (0 < (cutL (l.take 200)).length)) (cutL (l.take 200))) = true) :
    Calls Tryz.prog 3 #[.bool neg, v] w fun e w' => e = .returned (.bool true) ∧ Below w.heap.size w w' := by
  have HWh := Lib.hid (whole_c neg B v l w h (by omega))
  have hg := good_of neg (l.take 200) (fun x hx => hl x (List.mem_of_mem_take hx)) (by rw [List.length_take]; omega)
  obtain ⟨A, c, rfl, _⟩ := h.c
  obtain ⟨n, hn⟩ : ∃ n, (neg && decide (0 < (cutL (l.take 200)).length)) = n := ⟨_, rfl⟩
  rw [hn] at HWh hg hs
  obtain ⟨l3, hl3⟩ : ∃ l3, cutL (l.take 200) = l3 := ⟨_, rfl⟩
  rw [hl3] at HWh hg hs
  have HG := Lib.hid hg
  have hl3' : l3.length ≤ 2147483647 := by
    rw [← hl3]
    have := cutL_length (l.take 200)
    rw [List.length_take] at this
    omega
  clear hn hl3 h hl hg
  obtain ⟨x, hx⟩ : ∃ x, val n l3 = x := ⟨_, rfl⟩
  rw [hx] at hs
  have hx1 : -2147483648 ≤ x ∧ x ≤ 2147483647 := by unfold sml at hs; simpa using hs
  obtain ⟨r1, HF1, q1⟩ : ∃ r1, Hid (sgn (x - -2147483648) = r1) ∧ (0 : Int) ≤ r1 := ⟨_, rfl, cmp_ge x hx1.1 _ rfl⟩
  obtain ⟨r2, HF2, q2⟩ : ∃ r2, Hid (sgn (x - 2147483647) = r2) ∧ r2 ≤ (0 : Int) := ⟨_, rfl, cmp_le x hx1.2 _ rfl⟩
  have HX := Lib.hid hx
  have HQ := Lib.hid (And.intro hs hx1)
  clear hx hs hx1
  unfold vint at HWh
  go_enter Tryz.func3, Tryz.ntmps3
  go_upto_region 4 with (go_at_call 4; refine HWh.out.mono ?_; rintro e w1 ⟨A1, c1, A2, c2, A5, c5, rfl, hs1, hs2, hb1⟩; have HS1 := Lib.hid hs1; have HS2 := Lib.hid hs2; have HB1 := Lib.hid hb1; clear hs1 hs2 hb1)
  have HL : Hid (LX w n (.slice A1 l3.length c1) (.slice A2 l3.length c2) l3 A5 c5 w1.heap.size ((w1.alloc (.cells #[.bool n, .slice A1 l3.length c1] 24)).alloc (.cells #[.int .i64 2, .bool n, .slice A2 l3.length c2, .int .u64 0, .string ⟨#[]⟩, .slice A5 0 c5] 28))) :=
    ⟨blk_alloc (blk_new _ _) _, by simpa using blk_new (w1.alloc _) _, (HB1.out.alloc HB1.out.size _).alloc (by have := HB1.out.size; simp; omega) _, (HS1.out.alloc _).alloc _, (HS2.out.alloc _).alloc _⟩
  generalize (w1.alloc (.cells #[.bool n, .slice A1 l3.length c1] 24)).alloc (.cells #[.int .i64 2, .bool n, .slice A2 l3.length c2, .int .u64 0, .string ⟨#[]⟩, .slice A5 0 c5] 28) = wc at HL ⊢
  go_cut [7] (fun s7 wx => s7 = .bool true ∧ Hid (LX w n (.slice A1 l3.length c1) (.slice A2 l3.length c2) l3 A5 c5 w1.heap.size wx))
  case first =>
    obtain ⟨x0, x1⟩ := HL.out.cells
    go_region_with (first
      | (go_at_call 6; refine (small_c _ _ (by omega) (by omega)).mono ?_; rintro e w2 ⟨u, m, lm, rfl, hu, hgm, hvm, hlm, hb2⟩; (replace HL : Hid (LX w n (.slice A1 l3.length c1) (.slice A2 l3.length c2) l3 A5 c5 w1.heap.size w2) := by first | exact HL.out.below hb2 | exact HL.out.drew.below hb2); have HM := Lib.hid (And.intro hu (And.intro hgm hvm)); clear hu hgm hvm hlm hb2 x0 x1; obtain ⟨x0, x1⟩ := HL.out.cells)
      | (go_at_call 5; refine (cmp_c _ _ _ _ _ _ _ _ _ (by first | exact HL.out.int | exact HL.out.drew.int) (by first | exact HM.out.1 | exact HM.out.1.drew) HG.out HM.out.2.1).mono ?_; rintro e w2 ⟨rfl, hb2⟩; rw [HX.out, HM.out.2.2]; (replace HL : Hid (LX w n (.slice A1 l3.length c1) (.slice A2 l3.length c2) l3 A5 c5 w1.heap.size w2) := by first | exact HL.out.below hb2 | exact HL.out.drew.below hb2); clear hb2 x0 x1 HM; obtain ⟨x0, x1⟩ := HL.out.cells; first | rw [HF1.out] | rw [HF2.out]))
    all_goals (go_wp2_with fail; go_meet; exact ⟨rfl, HL⟩)
  case rest =>
    obtain ⟨rfl, HL⟩ := hcut
    clear HF1 HF2
    have hasx : asOut x = .tuple #[.int .i64 x, .bool true] := by unfold asOut; rw [if_pos HQ.out.1]
    have HA := Lib.hid hasx
    clear hasx
    obtain ⟨y0, y1, y2, y3, y4, y5⟩ := HL.out.cells2
    go_upto_region 6 with (go_at_call 7; refine (iasInt32_c _ 0 n ⟨#[]⟩ _ A5 0 c5 l3 _ HL.out.s2 HG.out.bytes hl3').mono ?_; rintro e w2 ⟨rfl, hb2⟩; rw [HX.out, HA.out]; replace HL := Lib.hid (HL.out.below hb2); clear hb2 y0 y1 y2 y3 y4 y5)
    go_cut [48] (fun s48 wx => s48 = .bool false ∧ Hid (LX w n (.slice A1 l3.length c1) (.slice A2 l3.length c2) l3 A5 c5 w1.heap.size wx))
    case first =>
      obtain ⟨x0, x1⟩ := HL.out.cells
      go_region_with (first
        | (go_at_call 6; refine (small_c _ _ (by have := HQ.out.2; omega) (by have := HQ.out.2; omega)).mono ?_; rintro e w2 ⟨u, m, lm, rfl, hu, hgm, hvm, hlm, hb2⟩; (replace HL : Hid (LX w n (.slice A1 l3.length c1) (.slice A2 l3.length c2) l3 A5 c5 w1.heap.size w2) := by first | exact HL.out.below hb2 | exact HL.out.drew.below hb2); have HM := Lib.hid (And.intro hu (And.intro hgm hvm)); clear hu hgm hvm hlm hb2 x0 x1; obtain ⟨x0, x1⟩ := HL.out.cells)
        | (go_at_call 5; refine (cmp_c _ _ _ _ _ _ _ _ _ (by first | exact HM.out.1 | exact HM.out.1.drew) (by first | exact HL.out.int | exact HL.out.drew.int) HM.out.2.1 HG.out).mono ?_; rintro e w2 ⟨rfl, hb2⟩; rw [HX.out, HM.out.2.2, Int.sub_self]; (replace HL : Hid (LX w n (.slice A1 l3.length c1) (.slice A2 l3.length c2) l3 A5 c5 w1.heap.size w2) := by first | exact HL.out.below hb2 | exact HL.out.drew.below hb2); clear hb2 x0 x1 HM; obtain ⟨x0, x1⟩ := HL.out.cells; rw [show sgn 0 = 0 from rfl]))
      all_goals (go_wp2_with fail; go_meet; exact ⟨rfl, HL⟩)
    case rest =>
      obtain ⟨rfl, HL⟩ := hcut
      clear q1 q2
      go_wp2_with (first
        | (go_at_call 6; refine (small_c 77 _ (by omega) (by omega)).mono ?_; rintro e w2 ⟨u, m, lm, rfl, hu, hgm, hvm, hlm, hb2⟩; replace HL := Lib.hid (HL.out.below hb2); have HM := Lib.hid (And.intro hu (And.intro hgm (And.intro hvm hlm))); clear hu hgm hvm hlm hb2)
        | (go_at_call 8; refine (told_c _ _ m lm _ HM.out.1 (by have := HM.out.2.2.2; omega)).mono ?_; rintro e w3 ⟨A3, c3, A6, c6, rfl, hs3, hb3⟩; replace HL := Lib.hid (HL.out.below hb3); have HS3 := Lib.hid hs3; clear hs3 hb3; unfold vint)
        | (go_at_call 7; refine (iasInt32_c _ 0 m ⟨#[]⟩ _ A6 0 c6 lm _ HS3.out HM.out.2.1.bytes (by have := HM.out.2.2.2; omega)).mono ?_; rintro e w4 ⟨rfl, hb4⟩; rw [HM.out.2.2.1, show asOut 77 = .tuple #[.int .i64 77, .bool true] from rfl]; replace HL := Lib.hid (HL.out.below hb4); clear hb4))
      go_ret
      exact ⟨rfl, HL.out.low⟩
end Go.Proofs.YtkkmnglnnfmnaaaGreatDoor
