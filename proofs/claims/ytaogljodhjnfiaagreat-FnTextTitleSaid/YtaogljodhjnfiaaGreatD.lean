/- starlark's string_title at a text of bytes below 128. -/
import Derived.Test.YtaogljodhjnfiaaGreatC
import Derived.Test.YtaogljodhjnfiaaGreatShelf
import Derived.StillTailTactics
import Derived.Deep.QuietTactic
namespace Go.Proofs.YtaogljodhjnfiaaGreat
open Go.RowKit
set_option linter.unusedVariables false

set_option maxRecDepth 100000 in
theorem unpackPos_none (nm : ByteArray) (w : World) :
    Calls Tryz.prog 39 #[.string nm, .slice none 0 0, .slice none 0 0, .int .i64 0, .slice none 0 0] w fun e w' => e = .returned .nilIface ∧ w = w' := by
  go_enter Tryz.func39, Tryz.ntmps39
  go_wp2
  refine wp_loop_rounds 1 ?_
  rw [rounds_succ]
  go_wp2
  go_ret
  exact ⟨rfl, rfl⟩

theorem titleRune (p : Bool) (c : UInt8) : ((tByte p c).toNat : Int) = if p then toLo c.toNat else toUp c.toNat := by
  unfold tByte toLo toUp
  cases p
  · by_cases h : loB c.toNat = true
    · have h2 := sub32 c h
      have h3 := h
      simp [loB] at h3
      simp only [h, if_true, Bool.false_eq_true, if_false]
      rw [if_pos (by omega), ← h2]
    · have h3 := h
      simp [loB] at h3
      simp only [h, Bool.false_eq_true, if_false]
      rw [if_neg (by omega)]
  · by_cases h : upB c.toNat = true
    · have h2 := add32 c h
      have h3 := h
      simp [upB] at h3
      simp only [h, if_true]
      rw [if_pos (by omega), ← h2]
    · have h3 := h
      simp [upB] at h3
      simp only [h, if_true, Bool.false_eq_true, if_false]
      rw [if_neg (by omega)]

theorem ltB_lo (c : Int) : ltB (toLo c) = ltB c := by
  unfold toLo
  split
  · have a : ltB (c + 32) = true := by simp [ltB, upB, loB]; omega
    have b : ltB c = true := by simp [ltB, upB, loB]; omega
    rw [a, b]
  · rfl
theorem ltB_up (c : Int) : ltB (toUp c) = ltB c := by
  unfold toUp
  split
  · have a : ltB (c - 32) = true := by simp [ltB, upB, loB]; omega
    have b : ltB c = true := by simp [ltB, upB, loB]; omega
    rw [a, b]
  · rfl
theorem toLo_bd (c : Int) (h0 : 0 ≤ c) (h1 : c < 128) : 0 ≤ toLo c ∧ toLo c < 128 := by unfold toLo; split <;> omega
theorem toUp_bd (c : Int) (h0 : 0 ≤ c) (h1 : c < 128) : 0 ≤ toUp c ∧ toUp c < 128 := by unfold toUp; split <;> omega
theorem runeCells_byte (b : UInt8) (h : b.toNat < 128) : Lib.runeCells (b.toNat : Int) = Lib.byteCells [b] := by
  unfold Lib.runeCells
  rw [Lib.encodeRuneZ_one (by omega) (by omega)]
  rfl

/-- What the builder holds after pos runes. -/
def titled (l : List UInt8) (k : Nat) : List UInt8 := (List.range k).map (tAt l)
theorem titled_succ (l : List UInt8) (k : Nat) : titled l (k + 1) = titled l k ++ [tAt l k] := by simp [titled, List.range_succ]
theorem titled_length (l : List UInt8) (k : Nat) : (titled l k).length = k := by simp [titled]

theorem assertString (v : Value) (w : World) : (Instr.typeAssert (.iface 47 v) 38 47 false).run Tryz.prog w = .ok v w := by kernel_rfl
theorem assertStringOk (v : Value) (w : World) : (Instr.typeAssert (.iface 47 v) 38 47 true).run Tryz.prog w = .ok (.tuple #[v, .bool true]) w := by kernel_rfl

set_option maxRecDepth 100000 in
set_option maxHeartbeats 4000000 in
theorem title_impl (s nm : ByteArray) (pb : Nat) (w : World) (hs : s.size ≤ 60) (hlow : ∀ j (h : j < s.size), s[j].toNat < 128)
    (c0 : w.cell? ⟨pb, 0, none⟩ = some (.string nm)) (c2 : w.cell? ⟨pb, 2, none⟩ = some (.iface 47 (.string s))) :
    Calls Tryz.prog 20 #[.pointer none, .pointer (some ⟨pb, 0, none⟩), .slice none 0 0, .slice none 0 0] w fun e w' =>
      e = .returned (.tuple #[.iface 47 (.string ⟨(titleL s.data.toList).toArray⟩), .nilIface]) ∧ Below w.heap.size w w' := by
  have has := assertString (.string s)
  go_enter Tryz.func20, Tryz.ntmps20
  go_wp2_with (first | (go_at_call 39; refine (unpackPos_none _ _).mono ?_; rintro e w' ⟨rfl, rfl⟩) | (go_at_call 40; go_in) | (go_at_call 41; go_in))
  refine (Tryz.Builder_Grow_fresh_cap w.heap.size w.heap.size s.size _ (Nat.le_refl _) (by show (w.heap.push _)[w.heap.size]? = _; simp) (by simp) (by omega)).mono ?_
  rintro e w1 ⟨rfl, ⟨hI, hb1⟩, _⟩
  have hsz1 : w.heap.size < w1.heap.size := by have := hb1.size; simp at this; omega
  have hI := (Lib.IsBuilderF.of (Or.inr hI)).alloc (.stringIter s 0)
  have hb1' : Below w.heap.size w w1 := ((Below.refl _ w).alloc (Nat.le_refl _) _).trans hb1
  have HI := Lib.hid hI
  clear hI hb1 has
  go_wp2
  go_loopw [13] (fun v wr => ∃ pos : Nat, pos ≤ s.size ∧ v = .bool (ahead s.data.toList pos) ∧ Lib.IsBuilderF 81 5 w.heap.size w.heap.size (Lib.byteCells (titled s.data.toList pos)) wr ∧ wr.heap[w1.heap.size]? = some (.stringIter s pos) ∧ Below w.heap.size w wr) (fun _ wr => s.size - wr.iterPos w1.heap.size)
  case atStart =>
    refine ⟨0, Nat.zero_le _, rfl, HI.out, ?_, hb1'.trans ((Below.refl _ w1).alloc (by omega) _)⟩
    exact World.iter_heap w1 s 0
  case round =>
    obtain ⟨pos, hpos, rfl, hI, hit, hbw⟩ := hrel
    have hsz : w1.heap.size < wr.heap.size := (Array.getElem?_eq_some_iff.1 hit).1
    by_cases hp : pos < s.size
    · have hnx : ∀ ty, (Instr.next (.pointer (some ⟨w1.heap.size, 0, none⟩)) true ty).run Tryz.prog wr = _ := fun ty => Lib.run_next_ascii_at wr w1.heap.size s pos ty hit hp (hlow pos hp)
      have hI2 := hI.iterAt hit (pos + 1)
      have hit2 := Lib.iterAt_heap wr w1.heap.size s pos (pos + 1) hit
      have hbw2 := Lib.below_iterAt hbw (k := w1.heap.size) (by omega) s (pos + 1)
      have hsz2 : w.heap.size ≤ (wr.iterAt w1.heap.size s (pos + 1)).heap.size := by rw [Lib.iterAt_size]; omega
      have hl := hlow pos hp
      have ht := titleRune (ahead s.data.toList pos) s[pos]
      have hta := tAt_eq s pos hp
      have hbl := toLo_bd (s[pos].toNat : Int) (by omega) (by omega)
      have hbu := toUp_bd (s[pos].toNat : Int) (by omega) (by omega)
      have hcl := ltB_lo (s[pos].toNat : Int)
      have hcu := ltB_up (s[pos].toNat : Int)
      cases hah : ahead s.data.toList pos
      · have hch : Lib.runeCells (toUp (s[pos].toNat : Int)) = Lib.byteCells [tAt s.data.toList pos] := by
          have e : ((tAt s.data.toList pos).toNat : Int) = toUp (s[pos].toNat : Int) := by rw [hta, hah]; rw [hah] at ht; simpa using ht
          rw [← e]
          exact runeCells_byte _ (by omega)
        have HC := Lib.hid hch
        have HAH := Lib.hid hah
        have HS2 := Lib.hid hcu
        obtain ⟨b1, b2⟩ := hbu
        clear hch ht hta hcl hcu
        clear hah
        go_wp2_with (first | (go_at_call 44; refine (toTitle_any _ _ (by omega) (by omega)).mono ?_; rintro e w' ⟨rfl, rfl⟩) | (go_at_call 45; refine (isCased_any _ _ (by omega) (by omega)).mono ?_; rintro e w' ⟨rfl, rfl⟩) | (go_at_call 46; refine (Tryz.Builder_WriteRune_k w.heap.size w.heap.size _ _ (by omega) (by omega) _ hI2 (by rw [Lib.byteCells_length, titled_length]; omega) hsz2).mono ?_))
        rintro e W1 ⟨rfl, h1, q1, k1⟩
        go_wp2
        go_roundw
        case rel =>
          refine ⟨pos + 1, by omega, ?_, ?_, k1.iter hit2 (by omega), hbw2.trans q1⟩
          · rw [ahead_succ s pos hp, HS2.out]; rfl
          · rw [titled_succ, Lib.byteCells_append, ← HC.out]; exact Or.inr h1
        case measure =>
          simp only [World.iterPos, k1.iter hit2 (by omega), hit]
          omega
      · have hch : Lib.runeCells (toLo (s[pos].toNat : Int)) = Lib.byteCells [tAt s.data.toList pos] := by
          have e : ((tAt s.data.toList pos).toNat : Int) = toLo (s[pos].toNat : Int) := by rw [hta, hah]; rw [hah] at ht; simpa using ht
          rw [← e]
          exact runeCells_byte _ (by omega)
        have HC := Lib.hid hch
        have HAH := Lib.hid hah
        have HS2 := Lib.hid hcl
        obtain ⟨b1, b2⟩ := hbl
        clear hch ht hta hcl hcu
        clear hah
        go_wp2_with (first | (go_at_call 43; refine (toLower_any _ _ (by omega) (by omega)).mono ?_; rintro e w' ⟨rfl, rfl⟩) | (go_at_call 45; refine (isCased_any _ _ (by omega) (by omega)).mono ?_; rintro e w' ⟨rfl, rfl⟩) | (go_at_call 46; refine (Tryz.Builder_WriteRune_k w.heap.size w.heap.size _ _ (by omega) (by omega) _ hI2 (by rw [Lib.byteCells_length, titled_length]; omega) hsz2).mono ?_))
        rintro e W1 ⟨rfl, h1, q1, k1⟩
        go_wp2
        go_roundw
        case rel =>
          refine ⟨pos + 1, by omega, ?_, ?_, k1.iter hit2 (by omega), hbw2.trans q1⟩
          · rw [ahead_succ s pos hp, HS2.out]; rfl
          · rw [titled_succ, Lib.byteCells_append, ← HC.out]; exact Or.inr h1
        case measure =>
          simp only [World.iterPos, k1.iter hit2 (by omega), hit]
          omega
    · have hnx : ∀ ty, (Instr.next (.pointer (some ⟨w1.heap.size, 0, none⟩)) true ty).run Tryz.prog wr = _ := fun ty => Lib.run_next_end_at wr w1.heap.size s pos ty hit hp
      obtain rfl : pos = s.size := by omega
      go_wp2_with (go_at_call 47; refine (Tryz.Builder_String_any_k w.heap.size w.heap.size (titled s.data.toList s.size) _ hI (by omega)).mono ?_)
      rintro e W1 ⟨rfl, _, q1, _⟩
      go_wp2
      go_ret2
      exact ⟨rfl, hbw.trans q1⟩
end Go.Proofs.YtaogljodhjnfiaaGreat
