/- impl.behind at an error. · big: nat.bytes. · big.Int Bytes. · impl.number. · impl.tellScalar. -/
import Derived.Test.YtkplnbjgkhmbcaaGreatDoorM32
import Derived.Test.YtkplnbjgkhmbcaaGreatDoorM33
import Derived.Test.YtkplnbjgkhmbcaaGreatDoorM08
import Derived.Stop.IfaceNil
import Derived.LoopTactic
import Derived.Laws.MakeOwn
namespace Go.Proofs.YtkplnbjgkhmbcaaGreatDoor
open Go.RowKit Go.Shelf Go.Proofs.YtkplnbjgkhmbcaaGreatDoorW.PrintWords Go.Proofs.YtkplnbjgkhmbcaaGreatDoorW.PrintLast Go.Proofs.YtkplnbjgkhmbcaaGreatDoorW.PrintMore
set_option linter.unusedVariables false
set_option linter.unusedSimpArgs false

set_option maxRecDepth 100000 in
theorem behindErr_c (g p : Addr) (w : World) : Calls Tryz.prog 49 #[.pointer (some g), .iface 187 (.pointer (some p))] w fun e w' => e = .returned (.tuple #[.slice none 0 0, .bool false, .bool true]) ∧ w' = w := by
  go_enter Tryz.func49, Tryz.ntmps49
  go_wp2
  exact bodyPost_ret (v := .tuple #[.slice none 0 0, .bool false, .bool true]) (by simp [results, Tryz.results49, go_sem]) rfl ⟨rfl, rfl⟩
end Go.Proofs.YtkplnbjgkhmbcaaGreatDoor

namespace Go.Proofs.YtkplnbjgkhmbcaaGreatDoor
open Go.RowKit Go.Shelf Go.Proofs.YtkplnbjgkhmbcaaGreatDoorW.PrintWords Go.Proofs.YtkplnbjgkhmbcaaGreatDoorW.PrintLast Go.Proofs.YtkplnbjgkhmbcaaGreatDoorW.PrintMore
set_option linter.unusedVariables false
set_option linter.unusedSimpArgs false

/-- The row of bytes so far: the n lowest bytes of X stand at its end. -/
def BRow (w0 : World) (M N n : Nat) (X : Int) (w : World) : Prop := IRow .u8 w M (List.replicate (N - n) 0 ++ beB n X) ∧ Below M w0 w
theorem BRow.step {w0 w : World} {M N n p : Nat} {X x : Int} (h : BRow w0 M N n X w) (hp : p + 1 + n = N) (hx : x % 256 = X / 256 ^ n % 256) :
    (∃ u, w.cell? ⟨M, p, none⟩ = some (.int .u8 u)) ∧ w.frozen? ⟨M, p, none⟩ = false ∧ BRow w0 M N (n + 1) X (w.setCell ⟨M, p, none⟩ (.int .u8 (x % 256))) := by
  have hlen : (List.replicate (N - n) 0 ++ beB n X).length = N := by rw [List.length_append, List.length_replicate, beB_length]; omega
  obtain ⟨q1, q2, q3, q4⟩ := irow_step (v := x % 256) h.1 (j := p) (by omega) h.2 (Nat.le_refl _)
  refine ⟨⟨_, q1⟩, q2, ?_, q4⟩
  rw [show N - n = p + 1 by omega, beB_step n p X _ hx] at q3
  rw [show N - (n + 1) = p by omega]
  exact q3
theorem mod_u8 (x : Int) : IntKind.u8.wrap x = x % 256 := by simp [IntKind.wrap, IntKind.signed, IntKind.bits]

set_option maxRecDepth 100000 in
set_option maxHeartbeats 1000000 in
theorem natBytes_c (A : Option Addr) (c M : Nat) (zs : List Int) (w : World) (hw : Words zs) (hn : zs.length ≤ 1000000) (hz : zs ≠ [] → ∃ b o, A = some ⟨b, o, none⟩ ∧ b < M ∧ ∀ j (h : j < zs.length), w.cell? ⟨b, o + j, none⟩ = some (.int .u64 zs[j])) (hr : BRow w M (8 * zs.length) 0 (leN zs) w) :
    Calls Tryz.prog 145 #[.slice A zs.length c, .slice (some ⟨M, 0, none⟩) (8 * zs.length) (8 * zs.length)] w fun e w' => ∃ i : Nat, e = .returned (.int .i64 i) ∧ i ≤ 8 * zs.length ∧ cutL (beB (8 * zs.length) (leN zs)) = (beB (8 * zs.length) (leN zs)).drop i ∧ BRow w M (8 * zs.length) (8 * zs.length) (leN zs) w' := by
  have HZ := Lib.hid hz
  have HR0 := Lib.hid hr
  have HW := Lib.hid hw
  have HWB := Lib.hid (word_byte zs hw)
  obtain ⟨X, hX⟩ : ∃ X, leN zs = X := ⟨_, rfl⟩
  rw [hX] at HR0 HWB ⊢
  clear hz hr hw hX
  obtain ⟨N, hN⟩ : ∃ N, 8 * zs.length = N := ⟨_, rfl⟩
  rw [hN] at HR0 ⊢
  go_enter Tryz.func145, Tryz.ntmps145
  go_wp2_with fail
  go_loopw [4, 12] (fun a d wr => ∃ i k : Nat, a = .int .i64 (i : Nat) ∧ d = .int .i64 (k : Nat) ∧ k ≤ zs.length ∧ i + 8 * k = N ∧ Hid (BRow w M N (8 * k) X wr)) (fun _ d _ => zs.length - (intOf d).toNat)
  case atStart => exact ⟨N, 0, rfl, rfl, Nat.zero_le _, by omega, HR0⟩
  case round =>
    obtain ⟨i, k, rfl, rfl, hk, hik, HB⟩ := hrel
    by_cases hlt : k < zs.length
    · obtain ⟨b, o, rfl, hbM, hcell⟩ := HZ.out (by intro e; rw [e] at hlt; simp at hlt)
      have ck := (HB.out.2.cell (p := ⟨b, o + k, none⟩) hbM).trans (hcell k hlt)
      clear hcell
      go_wp2_with fail
      go_loopw [4, 6, 7] (fun a d jj wq => ∃ i2 j : Nat, j ≤ 8 ∧ a = .int .i64 (i2 : Nat) ∧ d = .int .u64 (zs[k] / 256 ^ j) ∧ jj = .int .i64 (j : Nat) ∧ i2 + 8 * k + j = N ∧ Hid (BRow w M N (8 * k + j) X wq)) (fun _ _ jj _ => 8 - (intOf jj).toNat)
      case atStart => exact ⟨i, 0, by omega, rfl, by simp, rfl, by omega, HB⟩
      case round =>
        obtain ⟨i2, j, hj, rfl, rfl, rfl, hi2, HB2⟩ := hrel
        by_cases h8 : j < 8
        · obtain ⟨p, rfl⟩ : ∃ p, i2 = p + 1 := ⟨i2 - 1, by omega⟩
          have hx := HWB.out k j hlt h8
          have hd := Int.ediv_ediv_of_nonneg (x := zs[k]) (y := 256 ^ j) (z := 256) (Int.le_of_lt (pow_pos j))
          rw [← Int.pow_succ] at hd
          obtain ⟨x, hxx⟩ : ∃ x, zs[k] / 256 ^ j = x := ⟨_, rfl⟩
          rw [hxx] at hx hd ⊢
          obtain ⟨⟨u, s1⟩, s2, s3⟩ := HB2.out.step (x := x) (p := p) (by omega) hx
          have S3 := Lib.hid s3
          clear s3 hx hxx
          go_wp2
          go_roundw
          case rel => exact ⟨p, j + 1, by omega, by go_num, by rw [← hd], by go_num, by omega, S3⟩
          case measure => simp [intOf]; omega
        · obtain rfl : j = 8 := by omega
          go_wp2
          go_roundw
          case rel => exact ⟨i2, k + 1, by go_num, by go_num, by omega, by omega, HB2⟩
          case measure => simp [intOf]; omega
    · obtain rfl : k = zs.length := by omega
      obtain rfl : i = 0 := by omega
      rw [hN] at HB
      have HL : Hid ((beB N X).length = N) := Lib.hid (beB_length X N)
      have HI : Hid (∀ m (h : m < N), wr.cell? ⟨M, m, none⟩ = some (.int .u8 ((beB N X)[m]'(by rw [HL.out]; exact h)))) := Lib.hid fun m h => by
        have := HB.out.1.1 m (by simp [HL.out]; exact h)
        rw [this]
        congr 2
        simp
      go_wp2_with fail
      go_loopw [4] (fun a wq => ∃ m : Nat, m ≤ N ∧ a = .int .i64 (m : Nat) ∧ Hid (∀ q (h : q < (beB N X).length), q < m → (beB N X)[q] = 0) ∧ wq = wr) (fun a _ => N - (intOf a).toNat)
      case atStart => exact ⟨0, by omega, rfl, Lib.hid fun q h h2 => absurd h2 (Nat.not_lt_zero _), rfl⟩
      case round =>
        obtain ⟨m, hm, rfl, HQ, rfl⟩ := hrel
        by_cases hlm : m < N
        · have cm := HI.out m hlm
          have hmL : m < (beB N X).length := by rw [HL.out]; exact hlm
          obtain ⟨y, hy⟩ : ∃ y, (beB N X)[m] = y := ⟨_, rfl⟩
          rw [hy] at cm
          have HY := Lib.hid hy
          clear hy
          by_cases h0 : y = 0
          · subst h0
            go_wp2
            go_roundw
            case rel => exact ⟨m + 1, by omega, by go_num, Lib.hid fun q h h2 => by rcases Nat.lt_succ_iff_lt_or_eq.1 h2 with h3 | h3; exact HQ.out q h h3; subst h3; exact HY.out, trivial⟩
            case measure => simp [intOf]; omega
          · have h0b : (y == 0) = false := by simp [h0]
            have H0 := Lib.hid h0
            clear h0
            go_wp2
            go_ret
            exact ⟨m, rfl, hm, cutL_at _ m (by rw [HL.out]; exact hm) HQ.out (fun h => by rw [HY.out]; exact H0.out), HB.out⟩
        · obtain rfl : m = N := by omega
          go_wp2
          go_ret
          exact ⟨m, rfl, hm, cutL_at _ m (by rw [HL.out]; exact Nat.le_refl _) HQ.out (fun h => absurd h (by rw [HL.out]; omega)), HB.out⟩
end Go.Proofs.YtkplnbjgkhmbcaaGreatDoor

namespace Go.Proofs.YtkplnbjgkhmbcaaGreatDoor
open Go.RowKit Go.Shelf Go.Proofs.YtkplnbjgkhmbcaaGreatDoorW.PrintWords Go.Proofs.YtkplnbjgkhmbcaaGreatDoorW.PrintLast Go.Proofs.YtkplnbjgkhmbcaaGreatDoorW.PrintMore
set_option linter.unusedVariables false
set_option linter.unusedSimpArgs false

theorem cut_bytes (M N i : Nat) (hi : i ≤ N) : ∃ A', (∀ W : World, (Instr.slice 22 (.slice (some ⟨M, 0, none⟩) N N) (some (.int .i64 (i : Int))) none none).run Tryz.prog W = .ok (.slice A' (N - i) (N - i)) W) ∧ (i < N → A' = some ⟨M, i, none⟩) := by
  obtain ⟨i0, hi0, hz⟩ := Option.map_eq_some_iff.1 byteInfo
  simp only [Prod.mk.injEq] at hz
  have ht := Tryz.underlying22
  have hel : Tryz.prog.elem 22 = 5 := by simp [Program.elem, ht]
  have hu : Tryz.prog.underlying 22 = some (.slice (Tryz.prog.elem 22)) := by rw [hel]; exact ht
  refine ⟨if N = i then some ⟨M, 0, none⟩ else (some ⟨M, 0, none⟩ : Option Addr).map (·.add i), fun W => ?_, fun h => ?_⟩
  · rw [run_slice_l W 22 (some ⟨M, 0, none⟩) N N hu .i64 (i : Int) (Int.natCast_nonneg _) (by omega), hel]
    simp [sizeOf, typeInfo, hi0, hz.2.1, sliced, Result.andThen]
  · rw [if_neg (by omega)]
    simp [add_off]
theorem row_sl {w : World} {B M i : Nat} {l : List Int} {A' : Option Addr} (h : IRow .u8 w M l) (hB : B ≤ M) (hi : i ≤ l.length) (hA : i < l.length → A' = some ⟨M, i, none⟩) (hl : l.length ≤ 9223372036854775807) : Sl .u8 B w (.slice A' (l.length - i) (l.length - i)) (l.drop i) := by
  have e : (l.drop i).length = l.length - i := by simp
  refine ⟨A', l.length - i, by rw [e], by omega, by omega, fun hne => ?_⟩
  have hlt : i < l.length := by
    rcases Nat.lt_or_ge i l.length with h1 | h1
    · exact h1
    · exact absurd (List.drop_eq_nil_of_le h1) hne
  refine ⟨M, i, hA hlt, hB, lt_of_cell (h.1 i hlt), fun j hj => ?_⟩
  rw [h.1 (i + j) (by omega)]
  simp

/-- A slice of the bytes of a number. -/
def BytesR (w : World) (X : Int) (N : Nat) (e : Ending) (w' : World) : Prop :=
  ∃ A c, e = .returned (.slice A (cutL (beB N X)).length c) ∧ Sl .u8 w.heap.size w' (.slice A (cutL (beB N X)).length c) (cutL (beB N X)) ∧ Below w.heap.size w w'

set_option maxRecDepth 100000 in
theorem intBytes_c (g : Nat) (n : Bool) (v : Value) (zs : List Int) (w : World) (h : PI w g 0 n v zs) (hl : zs.length ≤ 100000) :
    Calls Tryz.prog 109 #[.pointer (some ⟨g, 0, none⟩)] w (BytesR w (leN zs) (8 * zs.length)) := by
  obtain ⟨A, c, rfl, hlc, hlm, hcell⟩ := h.sl
  have c1 : w.cell? ⟨g, 1, none⟩ = some (.slice A zs.length c) := by simpa using h.c1
  have hg := h.lt
  obtain ⟨i0, hi0, hz0, hz1, hz2⟩ := info_parts byteInfo
  have hmk := run_make (P := Tryz.prog) w 22 5 i0 (.int .u8 0) Tryz.underlying22 hi0 hz0 .i64 .i64 ((zs.length : Int) * 8) ((zs.length : Int) * 8) (by omega) (by omega) (by rw [hz2]; omega) (by omega)
  have hcl : (Value.int .u8 0).cells = #[.int .u8 0] := rfl
  rw [hz1, Nat.mul_one, hcl, show ((zs.length : Int) * 8).toNat = 8 * zs.length by omega] at hmk
  have HB0 : Hid (Below w.heap.size w (w.alloc (.cells (madeCells #[.int .u8 0] (8 * zs.length)) 5))) := Lib.hid ((Below.refl _ w).alloc (Nat.le_refl _) _)
  have c1a := (HB0.out.cell (p := ⟨g, 1, none⟩) hg).trans c1
  have HN := Lib.hid (natBytes_c A c w.heap.size zs (w.alloc (.cells (madeCells #[.int .u8 0] (8 * zs.length)) 5)) h.words (by omega) (fun hne => by
    obtain ⟨b, o, rfl, _, hlt, hc⟩ := hcell hne
    exact ⟨b, o, rfl, hlt, fun j hj => (HB0.out.cell (p := ⟨b, o + j, none⟩) hlt).trans (hc j hj)⟩)
    ⟨by simp [beB]; exact irow_zeros w .u8 (8 * zs.length) (8 * zs.length) _ (Nat.le_refl _), Below.refl _ _⟩)
  clear hcl hz0 hz1 hz2 hi0 h hcell
  go_enter Tryz.func109, Tryz.ntmps109
  go_wp2_with (go_at_call 145; (with_reducible refine HN.out.mono ?_); rintro e w1 ⟨i, rfl, hi, hcut, hrow⟩; obtain ⟨A2, hsl, hA2⟩ := cut_bytes w.heap.size (8 * zs.length) i hi; have HX := Lib.hid (And.intro hcut (And.intro hrow (And.intro hA2 hi))); clear hcut hrow hA2 hi)
  go_ret
  obtain ⟨hcut, hrow, hA2, hi⟩ := HX.out
  have hlen := beB_length (leN zs) (8 * zs.length)
  have hr : IRow .u8 w1 w.heap.size (beB (8 * zs.length) (leN zs)) := by have := hrow.1; simpa using this
  have hs := row_sl (B := w.heap.size) hr (Nat.le_refl _) (i := i) (A' := A2) (by omega) (fun h => hA2 (by omega)) (by omega)
  rw [hlen, ← hcut] at hs
  have hlc2 : (cutL (beB (8 * zs.length) (leN zs))).length = 8 * zs.length - i := by rw [hcut, List.length_drop, hlen]
  exact ⟨A2, 8 * zs.length - i, by rw [hlc2]; rfl, by rw [hlc2]; exact hs, HB0.out.trans hrow.2⟩
end Go.Proofs.YtkplnbjgkhmbcaaGreatDoor

namespace Go.Proofs.YtkplnbjgkhmbcaaGreatDoor
open Go.RowKit Go.Shelf Go.Proofs.YtkplnbjgkhmbcaaGreatDoorW.PrintWords Go.Proofs.YtkplnbjgkhmbcaaGreatDoorW.PrintLast Go.Proofs.YtkplnbjgkhmbcaaGreatDoorW.PrintMore Go.Proofs.YtkplnbjgkhmbcaaGreatDoor.PFnCompare Go.Proofs.YtkplnbjgkhmbcaaGreatDoor.PCmp Go.Proofs.YtkplnbjgkhmbcaaGreatDoor.PbytesOf Go.Proofs.YtkplnbjgkhmbcaaGreatDoor.Pcmp
set_option linter.unusedVariables false
set_option linter.unusedSimpArgs false

/-- A Val of an integer, its bytes from block B on. -/
def NumV (B : Nat) (w : World) (v : Value) (x : Int) : Prop :=
  ∃ n A c l, v = .agg #[.int .i64 2, .bool n, .slice A l.length c, .int .u64 0, .string ⟨#[]⟩, .slice none 0 0] ∧ Sl .u8 B w (.slice A l.length c) l ∧ Good n l ∧ val n l = x ∧ l.length ≤ 1000
theorem numV_of {B : Nat} {w : World} {n : Bool} {A : Option Addr} {c : Nat} {zs : List Int} (hw : Words zs) (hz : zs = [] → n = false) (hl : zs.length ≤ 8) (ht : Top zs)
    (h : Sl .u8 B w (.slice A (cutL (beB (8 * zs.length) (leN zs))).length c) (cutL (beB (8 * zs.length) (leN zs)))) :
    NumV B w (.agg #[.int .i64 2, .bool n, .slice A (cutL (beB (8 * zs.length) (leN zs))).length c, .int .u64 0, .string ⟨#[]⟩, .slice none 0 0]) (bval n zs) := by
  have hb := leN_bd zs hw
  have hnum : beN (cutL (beB (8 * zs.length) (leN zs))) = leN zs := by
    rw [cutL_num, beB_full _ _ hb.1]
    rw [Int.pow_mul, pow256_8]; exact hb.2
  have hlen : (cutL (beB (8 * zs.length) (leN zs))).length ≤ 64 := by
    have := cutL_length (beB (8 * zs.length) (leN zs)); rw [beB_length] at this; omega
  refine ⟨n, A, c, _, rfl, h, ⟨cutL_bytes _ (beB_bytes _ _), cutL_lead _, fun e => ?_, by omega⟩, ?_, by omega⟩
  · refine hz (Classical.byContradiction fun hne => ?_)
    have h1 := leN_top zs hw ht hne
    have h2 := wpos (zs.length - 1)
    rw [e] at hnum
    simp [beN] at hnum
    omega
  · unfold val bval
    rw [hnum]
theorem isign2_c (g o : Nat) (n : Bool) (v : Value) (zs : List Int) (w : World) (h : PI w g o n v zs) (hz : zs = [] → n = false) (hl : zs.length ≤ 1000000) :
    Calls Tryz.prog 108 #[.pointer (some ⟨g, o, none⟩)] w fun e w' => ∃ s : Int, e = .returned (.int .i64 s) ∧ decide (s < 0) = n ∧ w' = w :=
  (isign_c g o n v zs w h hz hl).mono fun e w' ⟨h1, h2⟩ => ⟨_, h1, (by
    by_cases he : zs = []
    · rw [if_pos he, hz he]; rfl
    · rw [if_neg he]; cases n <;> rfl), h2⟩
set_option maxRecDepth 100000 in
theorem number_of_c (B : Nat) (u : Value) (x : Int) (w : World) (h : SIv B w u x) (hx : x.natAbs < 256 ^ 60) :
    Calls Tryz.prog 69 #[u] w fun e w' => ∃ v, e = .returned v ∧ NumV w.heap.size w' v x ∧ Below w.heap.size w w' := by
  obtain ⟨y, p, rfl⟩ := h.shape
  obtain ⟨W0, hW0⟩ : ∃ W, W = (w.alloc (.cells #[.int .i64 y, .pointer p] 122)).alloc (.cells #[.int .i64 0, .bool false, .slice none 0 0, .int .u64 0, .string ⟨#[]⟩, .slice none 0 0] 26) := ⟨_, rfl⟩
  have HB0 : Hid (Below w.heap.size w W0) := by rw [hW0]; exact Lib.hid (((Below.refl _ w).alloc (Nat.le_refl _) _).alloc (by simp) _)
  have HK0 : Hid (W0.heap[w.heap.size + 1]? = some (.cells #[.int .i64 0, .bool false, .slice none 0 0, .int .u64 0, .string ⟨#[]⟩, .slice none 0 0] 26 (0, 0))) := by rw [hW0]; exact Lib.hid (by simpa using blk_new (w.alloc (.cells #[.int .i64 y, .pointer p] 122)) _)
  have HBI := Lib.hid (bigIntM_c B _ x W0 (h.below HB0.out) hx)
  have HC : Hid (W0.cell? ⟨w.heap.size, 0, none⟩ = some (.int .i64 y) ∧ W0.cell? ⟨w.heap.size, 1, none⟩ = some (.pointer p)) := by
    rw [hW0]
    exact Lib.hid ⟨blk_cell (blk_alloc (blk_new w _) _) 0 _ rfl, blk_cell (blk_alloc (blk_new w _) _) 1 _ rfl⟩
  clear h hx
  go_enter Tryz.func69, Tryz.ntmps69
  go_wp2_with fail
  rw [← hW0]
  clear hW0
  have k0 := HC.out.1
  have k1 := HC.out.2
  go_wp2_with (first
    | (go_at_call 107; (with_reducible refine HBI.out.mono ?_); rintro e w1 ⟨g, n, v, zs, hg, rfl, hp, hz, hv, hl, hb⟩; have HP := Lib.hid (And.intro hp (And.intro hz (And.intro hv (And.intro hl (And.intro hb (blk_below HK0.out hb)))))); clear hg hp hz hv hl hb)
    | (go_at_call 108; (with_reducible refine (isign2_c _ _ _ _ _ _ HP.out.1 HP.out.2.1 (by have := HP.out.2.2.2.1; omega)).mono ?_); rintro e w2 ⟨s, rfl, hs, hw1⟩; have hw2 := hw1.symm; clear hw1; subst hw2)
    | (go_at_call 109; (with_reducible refine (intBytes_c _ _ _ _ _ HP.out.1 (by have := HP.out.2.2.2.1; omega)).mono ?_); rintro e w3 ⟨A, c, rfl, hsl, hb3⟩; have HX := Lib.hid (And.intro hsl hb3); obtain ⟨x0, x1, x2, x3, x4, x5⟩ := cells6 (blk_below HP.out.2.2.2.2.2 hb3); have hfz := fun o => blk_free (blk_below HP.out.2.2.2.2.2 hb3) o; clear hsl hb3))
  refine bodyPost_ret (v := .agg #[.int .i64 2, .bool n, .slice A (cutL (beB (8 * zs.length) (leN zs))).length c, .int .u64 0, .string ⟨#[]⟩, .slice none 0 0]) (by simp [results, Tryz.results69, go_sem, x0, x1, x2, x3, x4, x5]) rfl ?_
  obtain ⟨hp, hz, hv, hl, hb, hk⟩ := HP.out
  obtain ⟨hsl, hb3⟩ := HX.out
  have h01 := lt_blk HK0.out
  have h12 := hb.size
  have hlt : w.heap.size + 1 < w1.heap.size := by omega
  have h02 := HB0.out.size
  refine ⟨_, rfl, ?_, ?_⟩
  · rw [← hv]
    exact numV_of hp.words hz hl hp.top (((((((hsl.setCell (p := ⟨w.heap.size + 1, 0, none⟩) _ hlt).setCell (p := ⟨w.heap.size + 1, 1, none⟩) _ hlt).setCell (p := ⟨w.heap.size + 1, 2, none⟩) _ hlt).setCell (p := ⟨w.heap.size + 1, 3, none⟩) _ hlt).setCell (p := ⟨w.heap.size + 1, 4, none⟩) _ hlt).setCell (p := ⟨w.heap.size + 1, 5, none⟩) _ hlt).mono (by omega))
  · have hle : w.heap.size ≤ w.heap.size + 1 := Nat.le_succ _
    exact ((((((((HB0.out.trans (hb.mono h02)).trans (hb3.mono (by omega))).setCell (p := ⟨w.heap.size + 1, 0, none⟩) hle _).setCell (p := ⟨w.heap.size + 1, 1, none⟩) hle _).setCell (p := ⟨w.heap.size + 1, 2, none⟩) hle _).setCell (p := ⟨w.heap.size + 1, 3, none⟩) hle _).setCell (p := ⟨w.heap.size + 1, 4, none⟩) hle _).setCell (p := ⟨w.heap.size + 1, 5, none⟩) hle _)
end Go.Proofs.YtkplnbjgkhmbcaaGreatDoor

namespace Go.Proofs.YtkplnbjgkhmbcaaGreatDoor
open Go.RowKit Go.Shelf Go.Proofs.YtkplnbjgkhmbcaaGreatDoorW.PrintWords Go.Proofs.YtkplnbjgkhmbcaaGreatDoorW.PrintLast Go.Proofs.YtkplnbjgkhmbcaaGreatDoorW.PrintMore Go.Proofs.YtkplnbjgkhmbcaaGreatDoor.PFnCompare Go.Proofs.YtkplnbjgkhmbcaaGreatDoor.PCmp Go.Proofs.YtkplnbjgkhmbcaaGreatDoor.PbytesOf Go.Proofs.YtkplnbjgkhmbcaaGreatDoor.Pcmp
set_option linter.unusedVariables false
set_option linter.unusedSimpArgs false

theorem taNoneTypeNoneType (v : Value) (w : World) : (Instr.typeAssert (.iface 137 v) 57 137 true).run Tryz.prog w = .ok (.tuple #[v, .bool true]) w := by kernel_rfl
theorem taBoolNoneType (v : Value) (w : World) : (Instr.typeAssert (.iface 138 v) 57 137 true).run Tryz.prog w = .ok (.tuple #[.int .u8 0, .bool false]) w := by kernel_rfl
theorem taBoolBool (v : Value) (w : World) : (Instr.typeAssert (.iface 138 v) 57 138 true).run Tryz.prog w = .ok (.tuple #[v, .bool true]) w := by kernel_rfl
theorem taIntNoneType (v : Value) (w : World) : (Instr.typeAssert (.iface 122 v) 57 137 true).run Tryz.prog w = .ok (.tuple #[.int .u8 0, .bool false]) w := by kernel_rfl
theorem taIntBool (v : Value) (w : World) : (Instr.typeAssert (.iface 122 v) 57 138 true).run Tryz.prog w = .ok (.tuple #[.bool false, .bool false]) w := by kernel_rfl
theorem taIntInt (v : Value) (w : World) : (Instr.typeAssert (.iface 122 v) 57 122 true).run Tryz.prog w = .ok (.tuple #[v, .bool true]) w := by kernel_rfl
theorem taFloatNoneType (v : Value) (w : World) : (Instr.typeAssert (.iface 123 v) 57 137 true).run Tryz.prog w = .ok (.tuple #[.int .u8 0, .bool false]) w := by kernel_rfl
theorem taFloatBool (v : Value) (w : World) : (Instr.typeAssert (.iface 123 v) 57 138 true).run Tryz.prog w = .ok (.tuple #[.bool false, .bool false]) w := by kernel_rfl
theorem taFloatInt (v : Value) (w : World) : (Instr.typeAssert (.iface 123 v) 57 122 true).run Tryz.prog w = .ok (.tuple #[.agg #[.int .i64 0, .pointer none], .bool false]) w := by kernel_rfl
theorem taFloatFloat (v : Value) (w : World) : (Instr.typeAssert (.iface 123 v) 57 123 true).run Tryz.prog w = .ok (.tuple #[v, .bool true]) w := by kernel_rfl
theorem taStringNoneType (v : Value) (w : World) : (Instr.typeAssert (.iface 141 v) 57 137 true).run Tryz.prog w = .ok (.tuple #[.int .u8 0, .bool false]) w := by kernel_rfl
theorem taStringBool (v : Value) (w : World) : (Instr.typeAssert (.iface 141 v) 57 138 true).run Tryz.prog w = .ok (.tuple #[.bool false, .bool false]) w := by kernel_rfl
theorem taStringInt (v : Value) (w : World) : (Instr.typeAssert (.iface 141 v) 57 122 true).run Tryz.prog w = .ok (.tuple #[.agg #[.int .i64 0, .pointer none], .bool false]) w := by kernel_rfl
theorem taStringFloat (v : Value) (w : World) : (Instr.typeAssert (.iface 141 v) 57 123 true).run Tryz.prog w = .ok (.tuple #[.float .f64 0, .bool false]) w := by kernel_rfl
theorem taStringString (v : Value) (w : World) : (Instr.typeAssert (.iface 141 v) 57 141 true).run Tryz.prog w = .ok (.tuple #[v, .bool true]) w := by kernel_rfl
theorem taBytesNoneType (v : Value) (w : World) : (Instr.typeAssert (.iface 142 v) 57 137 true).run Tryz.prog w = .ok (.tuple #[.int .u8 0, .bool false]) w := by kernel_rfl
theorem taBytesBool (v : Value) (w : World) : (Instr.typeAssert (.iface 142 v) 57 138 true).run Tryz.prog w = .ok (.tuple #[.bool false, .bool false]) w := by kernel_rfl
theorem taBytesInt (v : Value) (w : World) : (Instr.typeAssert (.iface 142 v) 57 122 true).run Tryz.prog w = .ok (.tuple #[.agg #[.int .i64 0, .pointer none], .bool false]) w := by kernel_rfl
theorem taBytesFloat (v : Value) (w : World) : (Instr.typeAssert (.iface 142 v) 57 123 true).run Tryz.prog w = .ok (.tuple #[.float .f64 0, .bool false]) w := by kernel_rfl
theorem taBytesString (v : Value) (w : World) : (Instr.typeAssert (.iface 142 v) 57 141 true).run Tryz.prog w = .ok (.tuple #[.string ⟨#[]⟩, .bool false]) w := by kernel_rfl
theorem taBytesBytes (v : Value) (w : World) : (Instr.typeAssert (.iface 142 v) 57 142 true).run Tryz.prog w = .ok (.tuple #[v, .bool true]) w := by kernel_rfl
/-- A Val without kids, its bytes from block B on. -/
def EV (B : Nat) (w : World) (v : Value) (x : VT) : Prop := ∃ A c, v = .agg #[.int .i64 x.f0, .bool x.f1, .slice A x.f2.length c, .int .u64 x.f3, .string x.f4, .slice none 0 0] ∧ Sl .u8 B w (.slice A x.f2.length c) x.f2 ∧ x.f5 = []
theorem ev_flat (B : Nat) (w : World) (k b : Int) (t : ByteArray) : EV B w (.agg #[.int .i64 k, .bool false, .slice none 0 0, .int .u64 b, .string t, .slice none 0 0]) ⟨k, false, [], b, t, []⟩ := ⟨none, 0, rfl, Sl.nil, rfl⟩
theorem canon_flat {k b : Int} {t : ByteArray} {s : Sca} (hk : 0 ≤ k ∧ k ≤ 9) (h2 : k ≠ 2) (hb : 0 ≤ b ∧ b < 18446744073709551616) (hs : scaOf ⟨k, false, [], b, t, []⟩ = some s) (ht : k ≠ 4 → k ≠ 5 → t = ⟨#[]⟩) : Canon s ⟨k, false, [], b, t, []⟩ :=
  ⟨⟨fun h => absurd h h2, hb, hk, ⟨fun x hx => (by cases hx), by simp⟩, by simp, fun _ => by simp⟩, rfl, hs, ht⟩
theorem canon_num_of {n : Bool} {l : List Int} {x : Int} (g : Good n l) (hv : val n l = x) (hl : l.length ≤ 1000) : Canon (.int x) ⟨2, n, l, 0, ⟨#[]⟩, []⟩ :=
  ⟨⟨fun _ => g, ⟨by show (0 : Int) ≤ 0; decide, by show (0 : Int) < 18446744073709551616; decide⟩, ⟨by show (0 : Int) ≤ 2; decide, by show (2 : Int) ≤ 9; decide⟩, ⟨g.bytes, by show l.length ≤ _; omega⟩, by simp, fun _ => by simp⟩, rfl, by subst hv; rfl, fun _ _ => rfl⟩
/-- What impl.tellScalar answers. -/
def TellR (w : World) (s : Sca) (e : Ending) (w' : World) : Prop := ∃ u x, e = .returned u ∧ EV w.heap.size w' u x ∧ Canon s x ∧ Below w.heap.size w w'

set_option maxRecDepth 100000 in
theorem tellScalar_c (B : Nat) (v : Value) (s : Sca) (w : World) (h : ScaV B w v s) (hf : s.fit) : Calls Tryz.prog 123 #[v] w (TellR w s) := by
  have HB0 : Hid (Below w.heap.size w (w.alloc (.cells #[.int .i64 0, .bool false, .slice none 0 0, .int .u64 0, .string ⟨#[]⟩, .slice none 0 0] 26))) := Lib.hid ((Below.refl _ w).alloc (Nat.le_refl _) _)
  have hle := Nat.le_refl w.heap.size
  cases s
  case none =>
    cases h
    have t1 := taNoneTypeNoneType
    go_enter Tryz.func123, Tryz.ntmps123
    go_wp2
    refine bodyPost_ret (v := .agg #[.int .i64 0, .bool false, .slice none 0 0, .int .u64 0, .string ⟨#[]⟩, .slice none 0 0]) (by simp [results, Tryz.results123, go_sem]) rfl ?_
    exact ⟨_, _, rfl, ev_flat _ _ _ _ _, canon_flat ⟨by decide, by decide⟩ (by decide) ⟨by decide, by decide⟩ rfl (fun _ _ => rfl), (Below.refl _ w).alloc (Nat.le_refl _) _⟩
  case bool b =>
    cases h
    have t1 := taBoolNoneType
    have t2 := taBoolBool
    cases b
    · go_enter Tryz.func123, Tryz.ntmps123
      go_wp2
      refine bodyPost_ret (v := .agg #[.int .i64 1, .bool false, .slice none 0 0, .int .u64 0, .string ⟨#[]⟩, .slice none 0 0]) (by simp [results, Tryz.results123, go_sem]) rfl ?_
      exact ⟨_, _, rfl, ev_flat _ _ _ _ _, canon_flat ⟨by decide, by decide⟩ (by decide) ⟨by decide, by decide⟩ rfl (fun _ _ => rfl), (Below.refl _ w).alloc (Nat.le_refl _) _⟩
    · go_enter Tryz.func123, Tryz.ntmps123
      go_wp2
      refine bodyPost_ret (v := .agg #[.int .i64 1, .bool false, .slice none 0 0, .int .u64 1, .string ⟨#[]⟩, .slice none 0 0]) (by simp [results, Tryz.results123, go_sem]) rfl ?_
      exact ⟨_, _, rfl, ev_flat _ _ _ _ _, canon_flat ⟨by decide, by decide⟩ (by decide) ⟨by decide, by decide⟩ rfl (fun _ _ => rfl), (Below.refl _ w).alloc (Nat.le_refl _) _⟩
  case float b =>
    cases h
    have t1 := taFloatNoneType
    have t2 := taFloatBool
    have t3 := taFloatInt
    have t4 := taFloatFloat
    have HF : Hid (b < 18446744073709551616) := Lib.hid hf
    clear hf
    go_enter Tryz.func123, Tryz.ntmps123
    go_wp2_with (go_at_call 70; (with_reducible refine (bitsOf_c _ _).mono ?_); rintro e w1 ⟨rfl, hw1⟩; have hw2 := hw1.symm; clear hw1; subst hw2)
    refine bodyPost_ret (v := .agg #[.int .i64 3, .bool false, .slice none 0 0, .int .u64 b, .string ⟨#[]⟩, .slice none 0 0]) (by simp [results, Tryz.results123, go_sem]) rfl ?_
    exact ⟨_, _, rfl, ev_flat _ _ _ _ _, canon_flat ⟨by decide, by decide⟩ (by decide) ⟨by omega, by have := HF.out; omega⟩ (by simp [scaOf]) (fun _ _ => rfl), (Below.refl _ w).alloc (Nat.le_refl _) _⟩
  case str t =>
    cases h
    have t1 := taStringNoneType
    have t2 := taStringBool
    have t3 := taStringInt
    have t4 := taStringFloat
    have t5 := taStringString
    go_enter Tryz.func123, Tryz.ntmps123
    go_wp2
    refine bodyPost_ret (v := .agg #[.int .i64 4, .bool false, .slice none 0 0, .int .u64 0, .string t, .slice none 0 0]) (by simp [results, Tryz.results123, go_sem]) rfl ?_
    exact ⟨_, _, rfl, ev_flat _ _ _ _ _, canon_flat ⟨by decide, by decide⟩ (by decide) ⟨by decide, by decide⟩ rfl (fun h _ => absurd rfl h), (Below.refl _ w).alloc (Nat.le_refl _) _⟩
  case bytes t =>
    cases h
    have t1 := taBytesNoneType
    have t2 := taBytesBool
    have t3 := taBytesInt
    have t4 := taBytesFloat
    have t5 := taBytesString
    have t6 := taBytesBytes
    go_enter Tryz.func123, Tryz.ntmps123
    go_wp2
    refine bodyPost_ret (v := .agg #[.int .i64 5, .bool false, .slice none 0 0, .int .u64 0, .string t, .slice none 0 0]) (by simp [results, Tryz.results123, go_sem]) rfl ?_
    exact ⟨_, _, rfl, ev_flat _ _ _ _ _, canon_flat ⟨by decide, by decide⟩ (by decide) ⟨by decide, by decide⟩ rfl (fun _ h => absurd rfl h), (Below.refl _ w).alloc (Nat.le_refl _) _⟩
  case int x =>
    obtain ⟨u, rfl, hu⟩ := h
    obtain ⟨y, p, rfl⟩ := hu.shape
    have t1 := taIntNoneType
    have t2 := taIntBool
    have t3 := taIntInt
    have HN := Lib.hid (fun W (hb : Below w.heap.size w W) => number_of_c B _ x W (hu.below hb) hf)
    have HB1 : Hid (Below w.heap.size w ((w.alloc (.cells #[.int .i64 0, .bool false, .slice none 0 0, .int .u64 0, .string ⟨#[]⟩, .slice none 0 0] 26)).alloc (.cells #[.int .i64 y, .pointer p] 122))) := Lib.hid (((Below.refl _ w).alloc (Nat.le_refl _) _).alloc (by simp) _)
    have HK1 : Hid (((w.alloc (.cells #[.int .i64 0, .bool false, .slice none 0 0, .int .u64 0, .string ⟨#[]⟩, .slice none 0 0] 26)).alloc (.cells #[.int .i64 y, .pointer p] 122)).heap[w.heap.size]? = some (.cells #[.int .i64 0, .bool false, .slice none 0 0, .int .u64 0, .string ⟨#[]⟩, .slice none 0 0] 26 (0, 0))) := Lib.hid (blk_alloc (blk_new _ _) _)
    clear hu hf
    go_enter Tryz.func123, Tryz.ntmps123
    go_wp2_with (go_at_call 69; (with_reducible refine (HN.out _ HB1.out).mono ?_); rintro e w1 ⟨v, rfl, ⟨n, A, c, l, rfl, hsl, hg, hval, hlen⟩, hb⟩; have HX := Lib.hid (And.intro hsl (And.intro hg (And.intro hval (And.intro hlen hb)))); obtain ⟨x0, x1, x2, x3, x4, x5⟩ := cells6 (blk_below HK1.out hb); have hfz := fun o => blk_free (blk_below HK1.out hb) o; clear hsl hg hval hlen hb)
    refine bodyPost_ret (v := .agg #[.int .i64 2, .bool n, .slice A l.length c, .int .u64 0, .string ⟨#[]⟩, .slice none 0 0]) (by simp [results, Tryz.results123, go_sem, x0, x1, x2, x3, x4, x5]) rfl ?_
    obtain ⟨hsl, hg, hval, hlen, hb⟩ := HX.out
    have hlt := lt_blk HK1.out
    refine ⟨_, ⟨2, n, l, 0, ⟨#[]⟩, []⟩, rfl, ⟨A, c, rfl, ?_, rfl⟩, canon_num_of hg hval hlen, ?_⟩
    · exact (((((((hsl.setCell (p := ⟨w.heap.size, 0, none⟩) _ hlt).setCell (p := ⟨w.heap.size, 1, none⟩) _ hlt).setCell (p := ⟨w.heap.size, 2, none⟩) _ hlt).setCell (p := ⟨w.heap.size, 3, none⟩) _ hlt).setCell (p := ⟨w.heap.size, 4, none⟩) _ hlt).setCell (p := ⟨w.heap.size, 5, none⟩) _ hlt).mono (Nat.le_of_lt hlt))
    · exact (((((((HB1.out.trans (hb.mono HB1.out.size)).setCell (p := ⟨w.heap.size, 0, none⟩) hle _).setCell (p := ⟨w.heap.size, 1, none⟩) hle _).setCell (p := ⟨w.heap.size, 2, none⟩) hle _).setCell (p := ⟨w.heap.size, 3, none⟩) hle _).setCell (p := ⟨w.heap.size, 4, none⟩) hle _).setCell (p := ⟨w.heap.size, 5, none⟩) hle _)
end Go.Proofs.YtkplnbjgkhmbcaaGreatDoor
