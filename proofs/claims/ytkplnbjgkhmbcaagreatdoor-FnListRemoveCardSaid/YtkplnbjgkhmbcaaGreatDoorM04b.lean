/- Plain Lean: digits of base 256, the lowest first; a product digit by digit; powers of two as bytes. · The walks of spec.digit, spec.Power, spec.Int's Mul, Lsh. -/
import Derived.Test.YtkplnbjgkhmbcaaGreatDoorM01
import Derived.IntWalk
import Derived.BigQuiet
import Derived.Deep.RegionWith
namespace Go.Proofs.YtkplnbjgkhmbcaaGreatDoor

/-- The number of bytes, the lowest first. -/
def le8 : List Int → Int
  | [] => 0
  | x :: r => x + 256 * le8 r
theorem le8_append (a b : List Int) : le8 (a ++ b) = le8 a + 256 ^ a.length * le8 b := by
  induction a with
  | nil => simp [le8]
  | cons x r ih =>
    rw [List.cons_append, le8, le8, ih, List.length_cons, Int.pow_succ, Int.mul_add, Int.mul_comm (256 ^ r.length) 256, Int.mul_assoc, Int.add_assoc]
theorem le8_reverse (l : List Int) : le8 l.reverse = beN l := by
  induction l with
  | nil => rfl
  | cons x r ih =>
    rw [List.reverse_cons, le8_append, ih, List.length_reverse, beN_cons, le8, le8, Int.mul_comm x, Int.mul_zero, Int.add_zero]
    omega
theorem bytes_reverse {l : List Int} (h : Bytes l) : Bytes l.reverse := fun x hx => h x (List.mem_reverse.1 hx)
theorem bytes_take {l : List Int} (h : Bytes l) (n : Nat) : Bytes (l.take n) := fun x hx => h x (List.mem_of_mem_take hx)
theorem le8_bd (l : List Int) (h : Bytes l) : 0 ≤ le8 l ∧ le8 l < 256 ^ l.length := by
  have := beN_bd l.reverse (bytes_reverse h)
  rw [← le8_reverse, List.reverse_reverse, List.length_reverse] at this
  exact this
theorem le8_set : ∀ (l : List Int) (k : Nat) (h : k < l.length) (v : Int), le8 (l.set k v) = le8 l + 256 ^ k * (v - l[k]) := by
  intro l
  induction l with
  | nil => intro k h; simp at h
  | cons x r ih =>
    intro k h v
    cases k with
    | zero => simp [le8]; omega
    | succ k =>
      have h' : k < r.length := by simpa using h
      rw [List.set_cons_succ, le8, le8, ih k h' v, Int.pow_succ, Int.mul_add, Int.mul_comm (256 ^ k) 256, Int.mul_assoc, Int.add_assoc]
      simp
theorem le8_zeros (n : Nat) : le8 (List.replicate n 0) = 0 := by
  induction n with
  | zero => rfl
  | succ n ih => rw [List.replicate_succ, le8, ih]; rfl
theorem bytes_zeros (n : Nat) : Bytes (List.replicate n 0) := by
  intro x hx
  rw [List.mem_replicate] at hx
  rw [hx.2]; omega
theorem bytes_set {l : List Int} (h : Bytes l) (k : Nat) (v : Int) (h0 : 0 ≤ v) (h1 : v < 256) : Bytes (l.set k v) := by
  intro x hx
  rcases List.mem_or_eq_of_mem_set hx with hx | rfl
  · exact h x hx
  · exact ⟨h0, h1⟩
/-- The i-th byte from the end on; 0 beyond. -/
def dg (l : List Int) (i : Nat) : Int := l.reverse.getD i 0
theorem dg_bd (l : List Int) (i : Nat) (h : Bytes l) : 0 ≤ dg l i ∧ dg l i < 256 := by
  unfold dg
  rw [List.getD_eq_getElem?_getD]
  rcases Nat.lt_or_ge i l.reverse.length with hi | hi
  · rw [List.getElem?_eq_getElem hi]
    exact bytes_reverse h _ (List.getElem_mem hi)
  · rw [List.getElem?_eq_none hi]; simp
theorem dg_in (l : List Int) (i : Nat) (h : i < l.length) : dg l i = l[l.length - 1 - i] := by
  unfold dg
  rw [List.getD_eq_getElem?_getD, List.getElem?_eq_getElem (by simpa using h), Option.getD_some, List.getElem_reverse]
theorem dg_out (l : List Int) (i : Nat) (h : ¬ i < l.length) : dg l i = 0 := by
  unfold dg
  rw [List.getD_eq_getElem?_getD, List.getElem?_eq_none (by simp; omega)]; rfl
theorem le8_take_succ (l : List Int) (k : Nat) : le8 (l.reverse.take (k + 1)) = le8 (l.reverse.take k) + dg l k * 256 ^ k := by
  rcases Nat.lt_or_ge k l.reverse.length with hk | hk
  · rw [List.take_succ_eq_append_getElem hk, le8_append, List.length_take, le8, le8]
    have : dg l k = l.reverse[k] := by unfold dg; rw [List.getD_eq_getElem?_getD, List.getElem?_eq_getElem hk]; rfl
    rw [this, show min k l.reverse.length = k from by omega, Int.mul_comm (256 ^ k), Int.mul_zero, Int.add_zero]
  · rw [List.take_of_length_le hk, List.take_of_length_le (by omega), dg_out l k (by simpa using hk)]
    omega

/-- Where the product stands: of x (reversed) i digits are done, of the next one times y k digits; c is carried. -/
structure MulIn (a b : List Int) (i k : Nat) (D : List Int) (c : Int) : Prop where
  len : D.length = a.length + b.length + 1
  bytes : Bytes D
  c0 : 0 ≤ c
  c1 : c < 256
  num : le8 D + c * 256 ^ (i + k) = le8 (a.reverse.take i) * beN b + dg a i * le8 (b.reverse.take k) * 256 ^ i
structure MulOut (a b : List Int) (i : Nat) (D : List Int) : Prop where
  len : D.length = a.length + b.length + 1
  bytes : Bytes D
  num : le8 D = le8 (a.reverse.take i) * beN b
theorem mul_start (a b : List Int) : MulOut a b 0 (List.replicate (a.length + b.length + 1) 0) :=
  ⟨by simp, bytes_zeros _, by rw [le8_zeros]; simp [le8]⟩
theorem mul_inner {a b : List Int} {i : Nat} {D : List Int} (h : MulOut a b i D) : MulIn a b i 0 D 0 :=
  ⟨h.len, h.bytes, by omega, by omega, by rw [h.num]; simp [le8]⟩
theorem p256 (n : Nat) : (0 : Int) < 256 ^ n := Int.pow_pos (by omega)
theorem mul_index {a b : List Int} {i k : Nat} {D : List Int} {c : Int} (h : MulIn a b i k D c) (ha : Bytes a) (hb : Bytes b) (hi : i < a.length) (hk : k < b.length ∨ 0 < c) : i + k < D.length := by
  rw [h.len]
  rcases hk with hk | hk
  · omega
  · have hX := le8_bd (a.reverse.take (i + 1)) (bytes_take (bytes_reverse ha) _)
    have hlen : (a.reverse.take (i + 1)).length = i + 1 := by rw [List.length_take, List.length_reverse]; omega
    rw [hlen, le8_take_succ] at hX
    have hY := le8_bd (b.reverse.take k) (bytes_take (bytes_reverse hb) _)
    have hB := beN_bd b hb
    have hD := (le8_bd D h.bytes).1
    have hd := dg_bd a i ha
    have hYB : le8 (b.reverse.take k) ≤ beN b := by
      rw [← le8_reverse b]
      conv => rhs; rw [← List.take_append_drop k b.reverse, le8_append]
      have h2 := (le8_bd (b.reverse.drop k) (fun x hx => bytes_reverse hb x (List.mem_of_mem_drop hx))).1
      have := Int.mul_nonneg (Int.le_of_lt (p256 (b.reverse.take k).length)) h2
      omega
    have e1 : le8 (a.reverse.take i) * beN b + dg a i * le8 (b.reverse.take k) * 256 ^ i ≤ (le8 (a.reverse.take i) + dg a i * 256 ^ i) * beN b := by
      have h3 : dg a i * le8 (b.reverse.take k) * 256 ^ i ≤ dg a i * beN b * 256 ^ i := Int.mul_le_mul_of_nonneg_right (Int.mul_le_mul_of_nonneg_left hYB hd.1) (Int.le_of_lt (p256 i))
      rw [Int.add_mul, Int.mul_right_comm (dg a i) (256 ^ i)]
      omega
    have e2 : (le8 (a.reverse.take i) + dg a i * 256 ^ i) * beN b < 256 ^ (i + 1 + b.length) := by
      have h4 : (le8 (a.reverse.take i) + dg a i * 256 ^ i) * beN b ≤ (256 ^ (i + 1) - 1) * beN b := Int.mul_le_mul_of_nonneg_right (by omega) hB.1
      have h5 : (256 ^ (i + 1) - 1) * beN b ≤ (256 ^ (i + 1) - 1) * (256 ^ b.length - 1) := Int.mul_le_mul_of_nonneg_left (by omega) (by have := p256 (i + 1); omega)
      have h6 := p256 (i + 1)
      have h7 := p256 b.length
      rw [Int.pow_add 256 (i + 1) b.length]
      have h8 : ((256 : Int) ^ (i + 1) - 1) * (256 ^ b.length - 1) = 256 ^ (i + 1) * 256 ^ b.length - 256 ^ (i + 1) - (256 ^ b.length - 1) := by
        rw [Int.sub_mul, Int.mul_sub, Int.one_mul, Int.mul_one]
      omega
    have e3 : (256 : Int) ^ (i + k) ≤ c * 256 ^ (i + k) := by
      have := Int.mul_le_mul_of_nonneg_right (show (1 : Int) ≤ c from hk) (Int.le_of_lt (p256 (i + k)))
      omega
    have e4 : (256 : Int) ^ (i + k) < 256 ^ (i + 1 + b.length) := by have := h.num; omega
    rcases Nat.lt_or_ge (i + k) (i + 1 + b.length) with h9 | h9
    · omega
    · have := pow_le_pow _ _ h9
      omega
theorem mul_step {a b : List Int} {i k : Nat} {D : List Int} {c : Int} (h : MulIn a b i k D c) (ha : Bytes a) (hb : Bytes b) (hik : i + k < D.length) :
    0 ≤ D[i + k] + dg a i * dg b k + c ∧ D[i + k] + dg a i * dg b k + c < 65536 ∧ MulIn a b i (k + 1) (D.set (i + k) ((D[i + k] + dg a i * dg b k + c) % 256)) ((D[i + k] + dg a i * dg b k + c) / 256) := by
  obtain ⟨a0, a1⟩ := dg_bd a i ha
  obtain ⟨b0, b1⟩ := dg_bd b k hb
  obtain ⟨d0, d1⟩ := h.bytes _ (List.getElem_mem hik)
  have hc0 := h.c0
  have hc1 := h.c1
  have p0 : 0 ≤ dg a i * dg b k := Int.mul_nonneg a0 b0
  have p1 : dg a i * dg b k ≤ 255 * 255 := Int.le_trans (Int.mul_le_mul_of_nonneg_right (by omega : dg a i ≤ 255) b0) (Int.mul_le_mul_of_nonneg_left (by omega) (by omega))
  have hnum := h.num
  obtain ⟨p, hp⟩ : ∃ p, dg a i * dg b k = p := ⟨_, rfl⟩
  obtain ⟨d, hd⟩ : ∃ d, D[i + k] = d := ⟨_, rfl⟩
  refine ⟨by omega, by omega, by rw [List.length_set]; exact h.len, bytes_set h.bytes _ _ (by omega) (by omega), by omega, by omega, ?_⟩
  rw [le8_set D (i + k) hik, le8_take_succ, ← Nat.add_assoc, Int.pow_succ, Int.mul_add, Int.add_mul, ← Int.mul_assoc (dg a i) (dg b k), hp, hd]
  rw [hp, hd] at *
  obtain ⟨s, hs⟩ : ∃ s, d + p + c = s := ⟨_, rfl⟩
  rw [hs]
  have e1 : (256 : Int) ^ (i + k) * (s % 256 - d) + s / 256 * (256 ^ (i + k) * 256) = 256 ^ (i + k) * (s - d) := by
    rw [Int.mul_comm (256 ^ (i + k)) 256, ← Int.mul_assoc, Int.mul_comm (s / 256 * 256), ← Int.mul_add]
    congr 1
    omega
  have e2 : p * 256 ^ k * 256 ^ i = 256 ^ (i + k) * p := by
    rw [Int.mul_assoc, ← Int.pow_add, Nat.add_comm k i, Int.mul_comm]
  have e3 : (256 : Int) ^ (i + k) * (s - d) = 256 ^ (i + k) * p + c * 256 ^ (i + k) := by
    rw [Int.mul_comm c, ← Int.mul_add]
    congr 1
    omega
  omega
theorem mul_done {a b : List Int} {i k : Nat} {D : List Int} (h : MulIn a b i k D 0) (hk : b.length ≤ k) : MulOut a b (i + 1) D := by
  refine ⟨h.len, h.bytes, ?_⟩
  have := h.num
  rw [List.take_of_length_le (l := b.reverse) (by simpa using hk), le8_reverse] at this
  rw [le8_take_succ, Int.add_mul, Int.mul_right_comm (dg a i) (256 ^ i)]
  omega
theorem mul_end {a b : List Int} {D : List Int} (h : MulOut a b a.length D) (ha : Bytes a) (hb : Bytes b) : beN (D.take (a.length + b.length)).reverse = beN a * beN b ∧ Bytes (D.take (a.length + b.length)).reverse ∧ (D.take (a.length + b.length)).reverse.length = a.length + b.length := by
  have hl := h.len
  have hn := h.num
  rw [List.take_of_length_le (by simp), le8_reverse] at hn
  have hA := beN_bd a ha
  have hB := beN_bd b hb
  have hlt : beN a * beN b < 256 ^ (a.length + b.length) := by
    rw [Int.pow_add]
    have h1 : beN a * beN b ≤ beN a * 256 ^ b.length := Int.mul_le_mul_of_nonneg_left (by omega) hA.1
    have h2 : beN a * 256 ^ b.length < 256 ^ a.length * 256 ^ b.length := Int.mul_lt_mul_of_pos_right hA.2 (p256 _)
    omega
  have hlen : (D.take (a.length + b.length)).length = a.length + b.length := by rw [List.length_take]; omega
  have e : le8 D = le8 (D.take (a.length + b.length)) + 256 ^ (a.length + b.length) * le8 (D.drop (a.length + b.length)) := by
    conv => lhs; rw [← List.take_append_drop (a.length + b.length) D, le8_append, hlen]
  have hd := (le8_bd (D.drop (a.length + b.length)) (fun x hx => h.bytes x (List.mem_of_mem_drop hx))).1
  have ht := (le8_bd (D.take (a.length + b.length)) (bytes_take h.bytes _)).1
  have hz : le8 (D.drop (a.length + b.length)) = 0 := by
    rcases Int.lt_or_le 0 (le8 (D.drop (a.length + b.length))) with hp | hp
    · have := Int.mul_le_mul_of_nonneg_left (show (1 : Int) ≤ le8 (D.drop (a.length + b.length)) from hp) (Int.le_of_lt (p256 (a.length + b.length)))
      omega
    · omega
  refine ⟨?_, bytes_reverse (bytes_take h.bytes _), by simpa using hlen⟩
  rw [← le8_reverse, List.reverse_reverse]
  rw [hz] at e
  omega

/-- The bytes of 2 to the n-th. -/
def powB (n : Nat) : List Int := (2 : Int) ^ (n % 8) :: List.replicate (n / 8) 0
theorem beN_zeros (n : Nat) : beN (List.replicate n 0) = 0 := by
  rw [← le8_reverse, List.reverse_replicate, le8_zeros]
theorem powB_num (n : Nat) : beN (powB n) = 2 ^ n := by
  unfold powB
  rw [beN_cons, beN_zeros, List.length_replicate, Int.add_zero]
  have h : (256 : Int) = 2 ^ 8 := by decide
  rw [h, ← Int.pow_mul, ← Int.pow_add]
  congr 1
  omega
theorem pow2_lt8 (m : Nat) (h : m < 8) : (0 : Int) ≤ 2 ^ m ∧ (2 : Int) ^ m < 256 := by
  match m, h with
  | 0, _ | 1, _ | 2, _ | 3, _ | 4, _ | 5, _ | 6, _ | 7, _ => decide
theorem powB_bytes (n : Nat) : Bytes (powB n) := by
  intro x hx
  unfold powB at hx
  rcases List.mem_cons.1 hx with rfl | hx
  · exact pow2_lt8 _ (Nat.mod_lt _ (by omega))
  · rw [(List.mem_replicate.1 hx).2]; omega
end Go.Proofs.YtkplnbjgkhmbcaaGreatDoor

namespace Go.Proofs.YtkplnbjgkhmbcaaGreatDoor
open Go.RowKit Go.Proofs.YtkplnbjgkhmbcaaGreatDoorW.PrintWords Go.Proofs.YtkplnbjgkhmbcaaGreatDoorW.PrintLast Go.Proofs.YtkplnbjgkhmbcaaGreatDoorW.PrintMore Go.Proofs.YtkplnbjgkhmbcaaGreatDoor.PFnCompare Go.Proofs.YtkplnbjgkhmbcaaGreatDoor.PCmp Go.Proofs.YtkplnbjgkhmbcaaGreatDoor.PbytesOf Go.Proofs.YtkplnbjgkhmbcaaGreatDoor.Pcmp
set_option linter.unusedVariables false
set_option linter.unusedSimpArgs false

set_option maxRecDepth 100000 in
theorem digit_c (B : Nat) (v : Value) (l : List Int) (i : Nat) (w : World) (h : Sl .u8 B w v l) (hl : Bytes l) (hn : l.length ≤ 2147483647) (hi : i ≤ 2147483647) :
    Calls Tryz.prog 180 #[v, .int .i64 i] w fun e w' => e = .returned (.int .i64 (dg l i)) ∧ w' = w := by
  obtain ⟨A, c, rfl, h1, h2, h3⟩ := h
  by_cases hlt : i < l.length
  · obtain ⟨b, o, rfl, _, _, hc⟩ := h3 (by rintro rfl; simp at hlt)
    have HD := Lib.hid (dg_in l i hlt)
    have hb := dg_bd l i hl
    have hcell := hc (l.length - 1 - i) (by omega)
    rw [← HD.out] at hcell
    obtain ⟨d, hd⟩ : ∃ d, dg l i = d := ⟨_, rfl⟩
    rw [hd] at hcell hb ⊢
    clear HD hd hc h3 hl
    have e1 : ((l.length : Int) - 1 - i).toNat = l.length - 1 - i := by omega
    have e0 : (0 : Int) ≤ (l.length : Int) - 1 - i := by omega
    have e2 : (l.length : Int) - 1 - i < l.length := by omega
    have hge : decide ((l.length : Int) ≤ i) = false := by simp; omega
    go_enter Tryz.func180, Tryz.ntmps180
    go_wp2
    go_ret
    exact ⟨rfl, rfl⟩
  · rw [dg_out l i hlt]
    go_enter Tryz.func180, Tryz.ntmps180
    go_wp2
    go_ret
    exact ⟨rfl, rfl⟩

theorem intInfoE : (Tryz.prog.info? 3).map (fun i => (i.zero, i.size, i.bytes)) = some (some (.int .i64 0), 1, 8) := by kernel_rfl
theorem byteInfo : (Tryz.prog.info? 5).map (fun i => (i.zero, i.size, i.bytes)) = some (some (.int .u8 0), 1, 1) := by kernel_rfl
/-- make of a row of integers: what it lays. -/
theorem make_row (k : IntKind) (t e bytes : Nat) (ht : Tryz.prog.underlying t = some (.slice e)) (hinfo : (Tryz.prog.info? e).map (fun i => (i.zero, i.size, i.bytes)) = some (some (.int k 0), 1, bytes)) (n : Nat) (hb : bytes * n ≤ 281474976710656) (hn : n ≤ 281474976710656) :
    ∃ O : Obj, (∀ w, (Instr.makeSlice t (.int .i64 n) (.int .i64 n)).run Tryz.prog w = .ok (.slice (some ⟨w.heap.size, 0, none⟩) n n) (w.alloc O)) ∧ ∀ w : World, IRow k (w.alloc O) w.heap.size (List.replicate n 0) := by
  obtain ⟨i, hi, hzz⟩ := Option.map_eq_some_iff.1 hinfo
  simp only [Prod.mk.injEq] at hzz
  obtain ⟨hz, hs, hby⟩ := hzz
  refine ⟨.cells (madeCells (Value.int k 0).cells n) e, fun w => ?_, fun w => ?_⟩
  · have := run_make (P := Tryz.prog) w t e i (.int k 0) ht hi hz .i64 .i64 n n (by omega) (by omega) (by rw [hby]; have h := (Int.ofNat_le (m := bytes * n) (n := 281474976710656)).2 hb; rw [Int.natCast_mul] at h; exact h) (by omega)
    simpa [hs] using this
  · exact irow_zeros w k n n e (Nat.le_refl _)

/-- The boxes of Mul, while the row grows. -/
structure MX (w0 : World) (n1 n2 : Bool) (s1 s2 : Value) (w : World) : Prop where
  b1 : w.heap[w0.heap.size]? = some (.cells #[.bool n1, s1] 54 (0, 0))
  b2 : w.heap[w0.heap.size + 1]? = some (.cells #[.bool n2, s2] 54 (0, 0))
  b3 : w.heap[w0.heap.size + 2]? = some (.cells #[.bool false, .slice none 0 0] 54 (0, 0))
  low : Below w0.heap.size w0 w
section
variable {w0 w : World} {n1 n2 : Bool} {s1 s2 : Value}
theorem MX.cells (h : MX w0 n1 n2 s1 s2 w) : w.cell? ⟨w0.heap.size, 0, none⟩ = some (.bool n1) ∧ w.cell? ⟨w0.heap.size, 1, none⟩ = some s1 ∧ w.cell? ⟨w0.heap.size + 1, 0, none⟩ = some (.bool n2) ∧ w.cell? ⟨w0.heap.size + 1, 1, none⟩ = some s2 :=
  ⟨(blk_cell h.b1 0).trans rfl, (blk_cell h.b1 1).trans rfl, (blk_cell h.b2 0).trans rfl, (blk_cell h.b2 1).trans rfl⟩
theorem MX.set (h : MX w0 n1 n2 s1 s2 w) {p : Addr} (hp : w0.heap.size + 2 < p.block) (u : Value) : MX w0 n1 n2 s1 s2 (w.setCell p u) :=
  ⟨blk_far h.b1 (by omega) u, blk_far h.b2 (by omega) u, blk_far h.b3 (by omega) u, h.low.setCell (by omega) u⟩
theorem MX.alloc (h : MX w0 n1 n2 s1 s2 w) (o : Obj) : MX w0 n1 n2 s1 s2 (w.alloc o) := ⟨blk_alloc h.b1 o, blk_alloc h.b2 o, blk_alloc h.b3 o, h.low.alloc h.low.size o⟩
theorem MX.drewN (h : MX w0 n1 n2 s1 s2 w) (n : Nat) : MX w0 n1 n2 s1 s2 (w.drewN n) := ⟨h.b1, h.b2, h.b3, pw_below_drewN h.low n⟩
theorem IRow.drewN {k : IntKind} {b : Nat} {l : List Int} (h : IRow k w b l) (n : Nat) : IRow k (w.drewN n) b l := h
end

theorem cells2 {w : World} {g : Nat} {a b : Value} {t : TypeId} (h : w.heap[g]? = some (.cells #[a, b] t (0, 0))) :
    w.cell? ⟨g, 0, none⟩ = some a ∧ w.cell? ⟨g, 1, none⟩ = some b ∧ w.frozen? ⟨g, 0, none⟩ = false ∧ w.frozen? ⟨g, 1, none⟩ = false :=
  ⟨(blk_cell h 0).trans rfl, (blk_cell h 1).trans rfl, blk_frozen h 0, blk_frozen h 1⟩
theorem blk_keep' {w w' : World} {g : Nat} {o : Obj} (h : w.heap[g]? = some o) (hb : Below w.heap.size w w') : w'.heap[g]? = some o := blk_below h hb
theorem size_set (w : World) (p : Addr) (u : Value) : (w.setCell p u).heap.size = w.heap.size := by simp [World.setCell]
theorem val_mul (n1 n2 : Bool) (a b l : List Int) (h : beN l = beN a * beN b) : val (n1 != n2) l = val n1 a * val n2 b := by
  unfold val
  rw [h]
  cases n1 <;> cases n2 <;> simp [Int.neg_mul, Int.mul_neg]

set_option maxRecDepth 100000 in
set_option maxHeartbeats 2000000 in
theorem mul_c (B1 B2 : Nat) (n1 n2 : Bool) (v1 v2 : Value) (a b : List Int) (w : World) (h1 : SInt B1 w v1 n1 a) (h2 : SInt B2 w v2 n2 b) (ha : Bytes a) (hb : Bytes b) (hla : a.length ≤ 100000) (hlb : b.length ≤ 100000) :
    Calls Tryz.prog 176 #[v1, v2] w fun e w' => ∃ v n l, e = .returned v ∧ SInt w.heap.size w' v n l ∧ Good n l ∧ val n l = val n1 a * val n2 b ∧ l.length ≤ a.length + b.length ∧ Below w.heap.size w w' := by
  obtain ⟨s1, rfl, hs1⟩ := h1
  obtain ⟨s2, rfl, hs2⟩ := h2
  obtain ⟨A1, c1, rfl, _⟩ := hs1.c
  obtain ⟨A2, c2, rfl, _⟩ := hs2.c
  have H1 := Lib.hid hs1
  have H2 := Lib.hid hs2
  clear hs1 hs2
  have HA := Lib.hid ha
  have HB := Lib.hid hb
  clear ha hb
  obtain ⟨O1, hm1, hr1⟩ := make_row .i64 226 3 8 Tryz.underlying226 intInfoE (a.length + b.length + 1) (by omega) (by omega)
  obtain ⟨O2, hm2, hr2⟩ := make_row .u8 22 5 1 Tryz.underlying22 byteInfo (a.length + b.length) (by omega) (by omega)
  have HR1 := Lib.hid hr1
  have HR2 := Lib.hid hr2
  clear hr1 hr2
  push_cast at hm1 hm2
  go_enter Tryz.func176, Tryz.ntmps176
  go_wp2
  have HX : Hid (MX w n1 n2 (.slice A1 a.length c1) (.slice A2 b.length c2) ((((w.alloc (.cells #[.bool n1, .slice A1 a.length c1] 54)).alloc (.cells #[.bool n2, .slice A2 b.length c2] 54)).alloc (.cells #[.bool false, .slice none 0 0] 54)).alloc O1)) :=
    ⟨blk_alloc (blk_alloc (blk_alloc (blk_new _ _) _) _) _, blk_alloc (blk_alloc (by simpa using blk_new (w.alloc _) _) _) _, blk_alloc (by simpa using blk_new ((w.alloc _).alloc _) _) _, (((((Below.refl _ _).alloc (Nat.le_refl _) _).alloc (by simp) _).alloc (by simp; omega) _).alloc (by simp; omega) _)⟩
  have HR : Hid (IRow .i64 ((((w.alloc (.cells #[.bool n1, .slice A1 a.length c1] 54)).alloc (.cells #[.bool n2, .slice A2 b.length c2] 54)).alloc (.cells #[.bool false, .slice none 0 0] 54)).alloc O1) (w.heap.size + 1 + 1 + 1) (List.replicate (a.length + b.length + 1) 0)) := by
    refine Lib.hid ?_
    simpa using HR1.out (((w.alloc (.cells #[.bool n1, .slice A1 a.length c1] 54)).alloc (.cells #[.bool n2, .slice A2 b.length c2] 54)).alloc (.cells #[.bool false, .slice none 0 0] 54))
  generalize (((w.alloc (.cells #[.bool n1, .slice A1 a.length c1] 54)).alloc (.cells #[.bool n2, .slice A2 b.length c2] 54)).alloc (.cells #[.bool false, .slice none 0 0] 54)).alloc O1 = wc at HX HR ⊢
  go_loopw [7] (fun iv wr => ∃ (i : Nat) (D : List Int), iv = .int .i64 i ∧ i ≤ a.length ∧ Hid (MulOut a b i D) ∧ Hid (MX w n1 n2 (.slice A1 a.length c1) (.slice A2 b.length c2) wr) ∧ Hid (IRow .i64 wr (w.heap.size + 1 + 1 + 1) D)) (fun iv _ => a.length - (intOf iv).toNat)
  case atStart => exact ⟨0, _, rfl, Nat.zero_le _, mul_start a b, HX, HR⟩
  case round =>
    clear HX HR
    obtain ⟨i, D, rfl, hi, HO, HX, HR⟩ := hrel
    obtain ⟨x0, x1, x2, x3⟩ := HX.out.cells
    by_cases hia : i < a.length
    · go_upto_region 8 with fail
      obtain ⟨wo, hwo⟩ : ∃ wo : World, wo = wr := ⟨_, rfl⟩
      rw [← hwo] at HX HR x0 x1 x2 x3 ⊢
      clear hwo
      go_loopw [8, 9] (fun cv kv wq => ∃ (k : Nat) (E : List Int) (c : Int), cv = .int .i64 c ∧ kv = .int .i64 k ∧ k ≤ a.length + b.length + 1 ∧ Hid (MulIn a b i k E c) ∧ Hid (MX w n1 n2 (.slice A1 a.length c1) (.slice A2 b.length c2) wq) ∧ Hid (IRow .i64 wq (w.heap.size + 1 + 1 + 1) E)) (fun _ kv _ => a.length + b.length + 2 - (intOf kv).toNat)
      case atStart => exact ⟨0, _, _, rfl, rfl, by omega, mul_inner HO.out, HX, HR⟩
      case round =>
        clear HX HR x0 x1 x2 x3 HO D
        obtain ⟨k, E, c, rfl, rfl, hk, HM, HX, HR⟩ := hrel
        obtain ⟨x0, x1, x2, x3⟩ := HX.out.cells
        have step : (k < b.length ∨ 0 < c) → ∃ (d da db p s1 s : Int), Hid (MulIn a b i (k + 1) (E.set (i + k) (s % 256)) (s / 256)) ∧ wr.cell? ⟨w.heap.size + 1 + 1 + 1, i + k, none⟩ = some (.int .i64 d) ∧ wr.frozen? ⟨w.heap.size + 1 + 1 + 1, i + k, none⟩ = false ∧
            Hid (∀ n, Calls Tryz.prog 180 #[.slice A1 a.length c1, .int .i64 i] (wr.drewN n) fun e w' => e = .returned (.int .i64 da) ∧ w' = wr.drewN n) ∧ Hid (∀ n, Calls Tryz.prog 180 #[.slice A2 b.length c2, .int .i64 k] (wr.drewN n) fun e w' => e = .returned (.int .i64 db) ∧ w' = wr.drewN n) ∧
            IntKind.i64.wrap (da * db) = p ∧ IntKind.i64.wrap (d + p) = s1 ∧ IntKind.i64.wrap (s1 + c) = s ∧ 0 ≤ s ∧ s < 65536 ∧ i + k < a.length + b.length + 1 := by
          intro hgo
          have hik := mul_index HM.out HA.out HB.out hia hgo
          obtain ⟨q0, q1, q2⟩ := mul_step HM.out HA.out HB.out hik
          obtain ⟨a0, a1⟩ := dg_bd a i HA.out
          obtain ⟨b0, b1⟩ := dg_bd b k HB.out
          obtain ⟨d0, d1⟩ := HM.out.bytes _ (List.getElem_mem hik)
          have c0 := HM.out.c0
          have c1' := HM.out.c1
          have p0 : 0 ≤ dg a i * dg b k := Int.mul_nonneg a0 b0
          have p1 : dg a i * dg b k ≤ 255 * 255 := Int.le_trans (Int.mul_le_mul_of_nonneg_right (by omega : dg a i ≤ 255) b0) (Int.mul_le_mul_of_nonneg_left (by omega) (by omega))
          refine ⟨E[i + k], dg a i, dg b k, dg a i * dg b k, E[i + k] + dg a i * dg b k, E[i + k] + dg a i * dg b k + c, q2, HR.out.1 _ hik, HR.out.2 _ hik, fun n => digit_c _ _ a i _ (H1.out.below (pw_below_drewN HX.out.low n)) HA.out (by omega) (by omega), fun n => digit_c _ _ b k _ (H2.out.below (pw_below_drewN HX.out.low n)) HB.out (by omega) (by omega), IntWalk.i64_in _ (by omega), IntWalk.i64_in _ (by omega), IntWalk.i64_in _ (by omega), q0, q1, ?_⟩
          rw [HM.out.len] at hik
          exact hik
        have hc0 := HM.out.c0
        have HR2 := Lib.hid HM.out.len
        have hcl : k < b.length ∨ (¬ k < b.length ∧ 0 < c) ∨ (¬ k < b.length ∧ c = 0) := by omega
        rcases hcl with hgo | ⟨hkb, hgo⟩ | ⟨hkb, hgo⟩
        · obtain ⟨d, da, db, p, s1, s, HM2, hcell, hfr, HDa, HDb, ep, es1, es, s0, s9, hik⟩ := step (Or.inl hgo)
          clear step HM hc0
          have e44 : IntKind.i64.wrap ((i : Int) + k) = (i : Int) + k := IntWalk.i64_in _ (by omega)
          have z44 : (0 : Int) ≤ (i : Int) + k := by omega
          have t44 : ((i : Int) + k).toNat = i + k := by omega
          have l44 : (i : Int) + k < a.length + b.length + 1 := by omega
          go_upto_region 10 with fail
          go_quiet (first | (go_at_call_of 180 (Value.slice A1 a.length c1); exact Calls.quiet_of_same (HDa.out _)) | (go_at_call 180; exact Calls.quiet_of_same (HDb.out _)))
          clear ep es1 es
          go_wp2_with fail
          go_roundw
          case rel => exact ⟨k + 1, _, _, rfl, by go_num, by omega, HM2, (HX.out.drewN _).set (by show w.heap.size + 2 < w.heap.size + 1 + 1 + 1; omega) _, (HR.out.drewN _).set _ (by rw [HR2.out]; omega) _⟩
          case measure => simp [intOf]; omega
        · obtain ⟨d, da, db, p, s1, s, HM2, hcell, hfr, HDa, HDb, ep, es1, es, s0, s9, hik⟩ := step (Or.inr hgo)
          clear step HM hc0
          have e44 : IntKind.i64.wrap ((i : Int) + k) = (i : Int) + k := IntWalk.i64_in _ (by omega)
          have z44 : (0 : Int) ≤ (i : Int) + k := by omega
          have t44 : ((i : Int) + k).toNat = i + k := by omega
          have l44 : (i : Int) + k < a.length + b.length + 1 := by omega
          go_upto_region 10 with fail
          go_quiet (first | (go_at_call_of 180 (Value.slice A1 a.length c1); exact Calls.quiet_of_same (HDa.out _)) | (go_at_call 180; exact Calls.quiet_of_same (HDb.out _)))
          clear ep es1 es
          go_wp2_with fail
          go_roundw
          case rel => exact ⟨k + 1, _, _, rfl, by go_num, by omega, HM2, (HX.out.drewN _).set (by show w.heap.size + 2 < w.heap.size + 1 + 1 + 1; omega) _, (HR.out.drewN _).set _ (by rw [HR2.out]; omega) _⟩
          case measure => simp [intOf]; omega
        · subst hgo
          clear step
          have HO2 := Lib.hid (mul_done HM.out (Nat.not_lt.1 hkb))
          clear HM hc0
          go_wp2_with fail
          go_roundw
          case rel => exact ⟨i + 1, E, by go_num, by omega, HO2, HX, HR⟩
          case measure => simp [intOf]; omega
    · obtain rfl : i = a.length := by omega
      clear hia hi
      have hDl := HO.out.len
      have HE := Lib.hid (mul_end HO.out HA.out HB.out)
      have HDB := Lib.hid HO.out.bytes
      clear HO
      go_upto_region 15 with fail
      have HR3 : Hid (IRow .u8 (wr.alloc O2) wr.heap.size (List.replicate (a.length + b.length) 0)) := HR2.out wr
      have HRD : Hid (IRow .i64 (wr.alloc O2) (w.heap.size + 1 + 1 + 1) D) := HR.out.alloc (lt_of_cell (HR.out.1 0 (by omega))) _
      have HX3 := Lib.hid (HX.out.alloc O2)
      have hg : w.heap.size + 1 + 1 + 1 < wr.heap.size := lt_of_cell (HR.out.1 0 (by omega))
      have hgs : (wr.alloc O2).heap.size = wr.heap.size + 1 := by simp
      generalize wr.alloc O2 = wd at HR3 HRD HX3 hgs ⊢
      obtain ⟨g, hg'⟩ : ∃ g, g = wr.heap.size := ⟨_, rfl⟩
      rw [← hg'] at HR3 hg hgs ⊢
      have HGS := Lib.hid hgs
      clear hgs hg' HX HR x0 x1 x2 x3
      go_loopw [12] (fun iv wq => ∃ (i : Nat), iv = .int .i64 i ∧ i ≤ a.length + b.length ∧ Hid (MX w n1 n2 (.slice A1 a.length c1) (.slice A2 b.length c2) wq) ∧ Hid (IRow .i64 wq (w.heap.size + 1 + 1 + 1) D) ∧ Hid (IRow .u8 wq g (List.replicate (a.length + b.length - i) 0 ++ (D.take i).reverse)) ∧ Hid (wq.heap.size = g + 1)) (fun iv _ => a.length + b.length - (intOf iv).toNat)
      case atStart => exact ⟨0, rfl, Nat.zero_le _, HX3, HRD, by refine Lib.hid ?_; simpa using HR3.out, HGS⟩
      case round =>
        clear HX3 HRD HR3 HGS
        obtain ⟨i, rfl, hi, HX, HRD, HR, HGS⟩ := hrel
        by_cases hlt : i < a.length + b.length
        · have hiD : i < D.length := by omega
          have hcd := HRD.out.1 i hiD
          obtain ⟨d0, d9⟩ := HDB.out _ (List.getElem_mem hiD)
          have HN : Hid (List.replicate (a.length + b.length - (i + 1)) 0 ++ (D.take (i + 1)).reverse = (List.replicate (a.length + b.length - i) 0 ++ (D.take i).reverse).set (a.length + b.length - 1 - i) D[i]) := by
            refine Lib.hid ?_
            rw [List.take_succ_eq_append_getElem hiD, List.reverse_append, List.set_append_left _ _ (by rw [List.length_replicate]; omega)]
            rw [show a.length + b.length - i = (a.length + b.length - (i + 1)) + 1 from by omega, show a.length + b.length - 1 - i = a.length + b.length - (i + 1) from by omega, List.replicate_succ']
            rw [List.set_append_right _ _ (by rw [List.length_replicate]; exact Nat.le_refl _), List.length_replicate, Nat.sub_self]
            simp
          have hll : a.length + b.length - 1 - i < (List.replicate (a.length + b.length - i) 0 ++ (D.take i).reverse).length := by
            rw [List.length_append, List.length_replicate]; omega
          obtain ⟨y, hco⟩ : ∃ y, wr.cell? ⟨g, a.length + b.length - 1 - i, none⟩ = some (.int .u8 y) := ⟨_, HR.out.1 _ hll⟩
          have hfo := HR.out.2 _ hll
          have HRS := Lib.hid (HR.out.set (a.length + b.length - 1 - i) hll D[i])
          rw [← HN.out] at HRS
          obtain ⟨d, hd⟩ : ∃ d, D[i] = d := ⟨_, rfl⟩
          rw [hd] at hcd d0 d9 HRS
          clear hd HN hll
          have z1 : (0 : Int) ≤ (a.length : Int) + b.length - 1 - i := by omega
          have t1 : ((a.length : Int) + b.length - 1 - i).toNat = a.length + b.length - 1 - i := by omega
          have l1 : (a.length : Int) + b.length - 1 - i < a.length + b.length := by omega
          have e8 : d % 256 = d := by omega
          have h12 : (i : Int) < a.length + b.length := by omega
          have h13 : (i : Int) < a.length + b.length + 1 := by omega
          go_wp2_with fail
          clear e8
          go_roundw
          case rel => exact ⟨i + 1, by go_num, by omega, HX.out.set (by show w.heap.size + 2 < g; omega) _, HRD.out.setOther _ _ (by show g ≠ _; omega), HRS, (size_set _ _ _).trans HGS.out⟩
          case measure => simp [intOf]; omega
        · obtain rfl : i = a.length + b.length := by omega
          clear hlt hi
          have HL : Hid (Sl .u8 g wr (.slice (some ⟨g, 0, none⟩) (a.length + b.length) (a.length + b.length)) (D.take (a.length + b.length)).reverse) := by
            have h1 := HR.out
            rw [Nat.sub_self, List.replicate_zero, List.nil_append] at h1
            have h2 := h1.sl' (c := a.length + b.length) (by rw [HGS.out]; omega) (by rw [HE.out.2.2]; omega) (by rw [HE.out.2.2]; omega)
            rw [HE.out.2.2] at h2
            exact h2
          obtain ⟨l, hl⟩ : ∃ l, (D.take (a.length + b.length)).reverse = l := ⟨_, rfl⟩
          rw [hl] at HL HE
          have HOf := Lib.hid (fun (neg : Bool) => of_c neg _ _ l wr HL.out (by rw [HE.out.2.2]; omega))
          obtain ⟨x0, x1, x2, x3⟩ := HX.out.cells
          obtain ⟨nn, hnn⟩ : ∃ nn, (n1 != n2) = nn := ⟨_, rfl⟩
          have HV := Lib.hid (val_mul n1 n2 a b l HE.out.1)
          rw [hnn] at HV
          have hn2 : (!(n1 == n2)) = nn := hnn
          clear hl HR HRD HDB
          have hcl : cutL l = cutL l := rfl
          clear hcl
          go_wp2_with (go_at_call 24; refine (HOf.out nn).mono ?_; rintro e w2 ⟨v2, rfl, ⟨s2, rfl, hs2⟩, hb2⟩; obtain ⟨A3, c3, rfl, _⟩ := hs2.c; have HS2 := Lib.hid hs2; have HB2 := Lib.hid hb2; have k3 := blk_keep' HX.out.b3 hb2; have q0 := (blk_cell k3 0).trans rfl; have q1 := (blk_cell k3 1).trans rfl; have f0 := blk_frozen k3 0; have f1 := blk_frozen k3 1; clear hs2 hb2 k3)
          have hlow := HX.out.low.size
          have hsz2 := HB2.out.size
          have h3lt := lt_of_cell (blk_cell HX.out.b3 0 ▸ rfl : wr.cell? ⟨w.heap.size + 2, 0, none⟩ = some (.bool false))
          refine bodyPost_ret (v := .agg #[.bool (nn && decide (0 < (cutL l).length)), .slice A3 (cutL l).length c3]) (by simp [results, Tryz.results176, go_sem, q0, q1]) rfl ⟨_, _, cutL l, rfl, ⟨_, rfl, ?_⟩, good_of nn l HE.out.2.1 (by rw [HE.out.2.2]; omega), (val_of nn l HE.out.2.1).trans HV.out, by rw [← HE.out.2.2]; exact cutL_length l, ?_⟩
          · exact ((HS2.out.setCell (p := ⟨w.heap.size + 1 + 1, 0, none⟩) _ (by show w.heap.size + 1 + 1 < wr.heap.size; omega)).setCell (p := ⟨w.heap.size + 1 + 1, 1, none⟩) _ (by show w.heap.size + 1 + 1 < wr.heap.size; omega)).mono hlow
          · exact ((HX.out.low.trans (HB2.out.mono hlow)).setCell (p := ⟨w.heap.size + 1 + 1, 0, none⟩) (by show w.heap.size ≤ w.heap.size + 1 + 1; omega) _).setCell (p := ⟨w.heap.size + 1 + 1, 1, none⟩) (by show w.heap.size ≤ w.heap.size + 1 + 1; omega) _
end Go.Proofs.YtkplnbjgkhmbcaaGreatDoor
