/- bigall's Int: SetBytes, Neg, BitLen, Int64. -/
import Derived.Test.YtkkmnglnnfmnaaaGreatDoorNat2
import Derived.Laws.Pointers
import Derived.Lib.Builder
namespace Go.Proofs.YtkkmnglnnfmnaaaGreatDoor
open Go.RowKit Go.Proofs.YtkkmnglnnfmnaaaGreatDoorW.PrintWords Go.Proofs.YtkkmnglnnfmnaaaGreatDoorW.PrintLast Go.Proofs.YtkkmnglnnfmnaaaGreatDoorW.PrintMore
set_option linter.unusedVariables false
set_option linter.unusedSimpArgs false

theorem blk_cell {w : World} {g : Nat} {t : TypeId} {cs : Array Value} (h : w.heap[g]? = some (.cells cs t (0, 0))) (j : Nat) (v : Value) (hv : cs[j]? = some v) : w.cell? ⟨g, j, none⟩ = some v := by
  simp [World.cell?, h, hv]
theorem blk_free {w : World} {g : Nat} {t : TypeId} {cs : Array Value} (h : w.heap[g]? = some (.cells cs t (0, 0))) (j : Nat) : w.frozen? ⟨g, j, none⟩ = false := by
  simp [World.frozen?, h]
theorem intInfo : (Tryz.prog.info? 110).map (fun i => i.size) = some 2 := by kernel_rfl

/-- Block g holds a bigall.Int: its sign, and its words in blocks above g. -/
structure BI (w : World) (g : Nat) (neg : Bool) (v : Value) (zs : List Int) : Prop where
  blk : w.heap[g]? = some (.cells #[.bool neg, v] 110 (0, 0))
  sl : Sl .u64 (g + 1) w v zs
  words : Words zs
  top : Top zs
section
variable {w w' : World} {g : Nat} {neg : Bool} {v : Value} {zs : List Int}
theorem BI.c0 (h : BI w g neg v zs) : w.cell? ⟨g, 0, none⟩ = some (.bool neg) := blk_cell h.blk 0 _ rfl
theorem BI.c1 (h : BI w g neg v zs) : w.cell? ⟨g, 1, none⟩ = some v := blk_cell h.blk 1 _ rfl
theorem BI.f0 (h : BI w g neg v zs) : w.frozen? ⟨g, 0, none⟩ = false := blk_free h.blk 0
theorem BI.f1 (h : BI w g neg v zs) : w.frozen? ⟨g, 1, none⟩ = false := blk_free h.blk 1
theorem BI.lt (h : BI w g neg v zs) : g < w.heap.size := lt_of_cell h.c0
theorem BI.below (h : BI w g neg v zs) (hb : Below w.heap.size w w') : BI w' g neg v zs := ⟨blk_below h.blk hb, h.sl.below hb, h.words, h.top⟩
theorem BI.drew (h : BI w g neg v zs) : BI w.drew g neg v zs := ⟨h.blk, h.sl, h.words, h.top⟩
theorem bi_set2 {b0 v0 : Value} (hk : w.heap[g]? = some (.cells #[b0, v0] 110 (0, 0)))
    (hs : Sl .u64 (g + 1) w v zs) (hw : Words zs) (ht : Top zs) : BI ((w.setCell ⟨g, 1, none⟩ v).setCell ⟨g, 0, none⟩ (.bool neg)) g neg v zs :=
  ⟨blk_put (blk_put hk 1 _ rfl) 0 _ rfl, (hs.setCell (p := ⟨g, 1, none⟩) _ (by show g < g + 1; omega)).setCell (p := ⟨g, 0, none⟩) _ (by show g < g + 1; omega), hw, ht⟩
theorem bi_neg {n0 : Bool} (h : BI w g n0 v zs) : BI (w.setCell ⟨g, 0, none⟩ (.bool neg)) g neg v zs :=
  ⟨blk_put h.blk 0 _ rfl, h.sl.setCell (p := ⟨g, 0, none⟩) _ (by show g < g + 1; omega), h.words, h.top⟩
theorem ptr_same (w : World) (a : Addr) : (binOp .neq 65 (.pointer (some a)) (.pointer (some a))).run Tryz.prog w = .ok (.bool false) w := by
  obtain ⟨i, hi, _⟩ := Option.map_eq_some_iff.1 intInfo
  exact Lib.run_neq_ptr_same w a Tryz.underlying65 hi
end

set_option maxRecDepth 100000 in
theorem intSetBytes_c (g B : Nat) (n0 : Bool) (v : Value) (l : List Int) (w : World) (h : Sl .u8 B w v l) (hl : Bytes l) (hlen : l.length ≤ 2147483647)
    (hk : w.heap[g]? = some (.cells #[.bool n0, .slice none 0 0] 110 (0, 0))) :
    Calls Tryz.prog 30 #[.pointer (some ⟨g, 0, none⟩), v] w fun e w' => e = .returned (.pointer (some ⟨g, 0, none⟩)) ∧ (∃ u zs, BI w' g false u zs ∧ leN zs = beN l) ∧ Below g w w' := by
  have c0 := blk_cell hk 0 _ rfl
  have c1 := blk_cell hk 1 _ rfl
  have f0 := blk_free hk 0
  have f1 := blk_free hk 1
  have hlt : g < w.heap.size := lt_of_cell c0
  have HK := Lib.hid hk
  clear hk
  have HC := Lib.hid (setBytes_c B v l w h hl hlen)
  obtain ⟨A, c, rfl, _⟩ := h.c
  clear h hl
  go_enter Tryz.func30, Tryz.ntmps30
  go_wp2_with (go_at_call 35; refine HC.out.mono ?_; rintro e w1 ⟨u, zs, rfl, hs, h1, h2, h3, hb⟩; have c0' := (hb.cell (p := ⟨g, 0, none⟩) hlt).trans c0; have c1' := (hb.cell (p := ⟨g, 1, none⟩) hlt).trans c1; have f0' := (hb.frozen (p := ⟨g, 0, none⟩) hlt).trans f0; have f1' := (hb.frozen (p := ⟨g, 1, none⟩) hlt).trans f1; obtain ⟨A1, k1, rfl, _⟩ := hs.c; have HS := Lib.hid (hs.mono hlt); have HR := Lib.hid (And.intro h1 (And.intro h2 h3)); have HB := Lib.hid hb; clear hs h1 h2 h3 hb)
  go_ret
  exact ⟨rfl, ⟨_, zs, bi_set2 (blk_below HK.out HB.out) HS.out HR.out.1 HR.out.2.1, HR.out.2.2⟩, ((HB.out.mono (Nat.le_of_lt hlt)).setCell (Nat.le_refl _) _).setCell (Nat.le_refl _) _⟩

set_option maxRecDepth 100000 in
/-- z.Neg(z). -/
theorem intNeg_c (g : Nat) (n0 : Bool) (v : Value) (zs : List Int) (w : World) (h : BI w g n0 v zs) :
    Calls Tryz.prog 31 #[.pointer (some ⟨g, 0, none⟩), .pointer (some ⟨g, 0, none⟩)] w fun e w' => e = .returned (.pointer (some ⟨g, 0, none⟩)) ∧ BI w' g (decide (0 < zs.length) && !n0) v zs ∧ Below g w w' := by
  have H := Lib.hid h
  have c0 := h.c0
  have c1 := h.c1
  have f0 := h.f0
  have f1 := h.f1
  have hs := h.sl
  have hpe := fun w => ptr_same w ⟨g, 0, none⟩
  clear h
  obtain ⟨A, c, rfl, _⟩ := hs.c
  clear hs
  cases n0
  all_goals
    by_cases hz : 0 < zs.length
    all_goals
      have hzb := hz
      go_enter Tryz.func31, Tryz.ntmps31
      go_wp2_with (go_at_call 36; go_in)
  all_goals go_ret
  all_goals exact ⟨rfl, by simpa [hz] using bi_neg H.out, (Below.refl g w).setCell (p := ⟨g, 0, none⟩) (Nat.le_refl g) _⟩

/-- The length in bits, as far as isSmall asks. -/
structure Bits32 (m : Int) (n : Nat) : Prop where
  small : n < 32 ↔ m < 2147483648
  just : n = 32 ↔ (2147483648 ≤ m ∧ m < 4294967296)
theorem bits32_zero : Bits32 0 0 := ⟨by omega, by omega⟩
theorem pow2_mono (a b : Nat) (h : a ≤ b) : (2 : Nat) ^ a ≤ 2 ^ b := Nat.pow_le_pow_right (by omega) h
theorem bits32_one (x : Int) (h0 : 0 < x) (h1 : x < 18446744073709551616) : Bits32 x (Lib.bitLen x.toNat) ∧ 0 < Lib.bitLen x.toNat := by
  obtain ⟨k, hk1, hk2⟩ : ∃ k, 2 ^ k ≤ x.toNat ∧ x.toNat < 2 ^ (k + 1) := ⟨x.toNat.log2, Nat.log2_self_le (by omega), Nat.lt_log2_self⟩
  have hk : k < 64 := by
    rcases Nat.lt_or_ge k 64 with h | h
    · exact h
    · have : (2 : Nat) ^ 64 ≤ 2 ^ k := Nat.pow_le_pow_right (by omega) h
      omega
  rw [bitLen_eq k x.toNat hk1 hk2 hk]
  have a1 : k + 1 ≤ 31 → x.toNat < 2147483648 := fun h => by have := pow2_mono (k + 1) 31 h; omega
  have a2 : 31 ≤ k → 2147483648 ≤ x.toNat := fun h => by have := pow2_mono 31 k h; omega
  have a3 : k + 1 ≤ 32 → x.toNat < 4294967296 := fun h => by have := pow2_mono (k + 1) 32 h; omega
  have a4 : 32 ≤ k → 4294967296 ≤ x.toNat := fun h => by have := pow2_mono 32 k h; omega
  exact ⟨⟨by omega, by omega⟩, by omega⟩
end Go.Proofs.YtkkmnglnnfmnaaaGreatDoor
