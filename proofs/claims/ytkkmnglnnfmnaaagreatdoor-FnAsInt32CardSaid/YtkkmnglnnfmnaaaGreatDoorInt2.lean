/- bigall's Int: BitLen, Int64; starlark's isSmall. -/
import Derived.Test.YtkkmnglnnfmnaaaGreatDoorInt1
namespace Go.Proofs.YtkkmnglnnfmnaaaGreatDoor
open Go.RowKit Go.Proofs.YtkkmnglnnfmnaaaGreatDoorW.PrintWords Go.Proofs.YtkkmnglnnfmnaaaGreatDoorW.PrintLast Go.Proofs.YtkkmnglnnfmnaaaGreatDoorW.PrintMore
set_option linter.unusedVariables false
set_option linter.unusedSimpArgs false

theorem wpow_ge (n : Nat) (h : 0 < n) : (18446744073709551616 : Int) ≤ 18446744073709551616 ^ n := by
  obtain ⟨m, rfl⟩ : ∃ m, n = m + 1 := ⟨n - 1, by omega⟩
  rw [Int.pow_succ]
  have := wpos m
  omega
/-- The length in bits of a row of words without zeros on top. -/
theorem bitLen_sl (B : Nat) (v : Value) (zs : List Int) (w : World) (h : Sl .u64 B w v zs) (hw : Words zs) (ht : Top zs) (hlen : zs.length ≤ 4398046511104) :
    Calls Tryz.prog 55 #[v] w fun e w' => ∃ n : Nat, e = .returned (.int .i64 n) ∧ Bits32 (leN zs) n ∧ w' = w := by
  obtain ⟨A, c, rfl, h1, h2, h3⟩ := h
  by_cases hne : zs = []
  · subst hne
    refine (bitLen0_c c A w).mono ?_
    rintro e w' ⟨rfl, rfl⟩
    exact ⟨0, rfl, bits32_zero, rfl⟩
  · obtain ⟨b, o, rfl, hB, hlt, hc⟩ := h3 hne
    have hpos : 0 < zs.length := List.length_pos_iff.2 hne
    have hx := hw _ (List.getLast_mem hne)
    have hx0 := ht hne
    have hcl := hc (zs.length - 1) (by omega)
    rw [← List.getLast_eq_getElem hne] at hcl
    refine (bitLen_c b o zs.length c (zs.getLast hne) w hpos hlen (by omega) hx.2 hcl).mono ?_
    rintro e w' ⟨rfl, rfl⟩
    obtain ⟨hb, hb0⟩ := bits32_one (zs.getLast hne) (by omega) hx.2
    refine ⟨(zs.length - 1) * 64 + Lib.bitLen (zs.getLast hne).toNat, congrArg (fun z => Ending.returned (.int .i64 z)) (by omega), ?_, rfl⟩
    by_cases h1 : zs.length = 1
    · obtain ⟨x, rfl⟩ : ∃ x, zs = [x] := by
        match zs, h1 with
        | [x], _ => exact ⟨x, rfl⟩
      simpa [leN] using hb
    · have h4 := leN_top zs hw ht hne
      have h5 := wpow_ge (zs.length - 1) (by omega)
      exact ⟨by omega, by omega⟩

set_option maxRecDepth 100000 in
theorem intBitLen_c (g : Nat) (neg : Bool) (v : Value) (zs : List Int) (w : World) (h : BI w g neg v zs) (hlen : zs.length ≤ 4398046511104) :
    Calls Tryz.prog 50 #[.pointer (some ⟨g, 0, none⟩)] w fun e w' => ∃ n : Nat, e = .returned (.int .i64 n) ∧ Bits32 (leN zs) n ∧ w' = w := by
  have c1 := h.c1
  have c0 := h.c0
  have HC := Lib.hid (bitLen_sl _ v zs w h.sl h.words h.top hlen)
  obtain ⟨A, c, rfl, _⟩ := h.sl.c
  clear h
  go_enter Tryz.func50, Tryz.ntmps50
  go_wp2_with (go_at_call 55; refine HC.out.mono ?_; rintro e w1 ⟨n, rfl, hn, rfl⟩)
  go_ret
  exact ⟨n, rfl, hn, rfl⟩

/-- The lowest word. -/
def lowW (zs : List Int) : Int := zs.headD 0
theorem lowW_small (zs : List Int) (hw : Words zs) (ht : Top zs) (h : leN zs < 18446744073709551616) : lowW zs = leN zs := by
  match zs, hw, ht, h with
  | [], _, _, _ => rfl
  | [x], _, _, _ => simp [lowW, leN]
  | x :: y :: r, hw, ht, h =>
    have h4 := leN_top (x :: y :: r) hw ht (by simp)
    have h5 := wpow_ge ((x :: y :: r).length - 1) (by simp)
    omega
theorem lowW_bd (zs : List Int) (hw : Words zs) : 0 ≤ lowW zs ∧ lowW zs < 18446744073709551616 := by
  match zs, hw with
  | [], _ => exact ⟨by simp [lowW], by simp [lowW]⟩
  | x :: r, hw => exact hw x (List.mem_cons_self)
theorem low64_sl (B : Nat) (v : Value) (zs : List Int) (w : World) (h : Sl .u64 B w v zs) (hw : Words zs) :
    Calls Tryz.prog 51 #[v] w fun e w' => e = .returned (.int .u64 (lowW zs)) ∧ w' = w := by
  obtain ⟨A, c, rfl, h1, h2, h3⟩ := h
  match zs, hw, h1, h2, h3 with
  | [], _, _, _, _ => exact low64_nil c A w
  | x :: r, hw, h1, h2, h3 =>
    obtain ⟨b, o, rfl, hB, hlt, hc⟩ := h3 (by simp)
    have := hw x (List.mem_cons_self)
    exact low64_c b o (x :: r).length c x w (by simp) (by have := hc 0 (by simp); simpa using this) this.1 this.2

/-- What Int64 gives. -/
def i64Of (neg : Bool) (x : Int) : Int := if neg then wrap64 (-(wrap64 x)) else wrap64 x
set_option maxRecDepth 100000 in
theorem intInt64_c (g : Nat) (neg : Bool) (v : Value) (zs : List Int) (w : World) (h : BI w g neg v zs) :
    Calls Tryz.prog 39 #[.pointer (some ⟨g, 0, none⟩)] w fun e w' => e = .returned (.int .i64 (i64Of neg (lowW zs))) ∧ w' = w := by
  have c1 := h.c1
  have c0 := h.c0
  have HC := Lib.hid (low64_sl _ v zs w h.sl h.words)
  obtain ⟨A, c, rfl, _⟩ := h.sl.c
  clear h
  cases neg
  all_goals
    go_enter Tryz.func39, Tryz.ntmps39
    go_wp2_with (go_at_call 51; refine HC.out.mono ?_; rintro e w1 ⟨rfl, rfl⟩)
    go_ret
    exact ⟨rfl, rfl⟩
end Go.Proofs.YtkkmnglnnfmnaaaGreatDoor
