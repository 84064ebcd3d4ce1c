/- starlark's isCasedString, and strings.Map with ToUpper, at texts of bytes below 128. -/
import Derived.Test.YtaogljodhjnfiaaGreatDoorCc
import Derived.Test.YtaogljodhjnfiaaGreatDoorShelf
import Derived.StillTailTactics
import Derived.Deep.QuietTactic
namespace Go.Proofs.YtaogljodhjnfiaaGreatDoor
open Go.RowKit
set_option linter.unusedVariables false

def anyLt (l : List UInt8) : Bool := l.any fun c => ltB c.toNat
theorem anyLt_succ (s : ByteArray) (k : Nat) (h : k < s.size) : anyLt (s.data.toList.take (k + 1)) = (anyLt (s.data.toList.take k) || ltB s[k].toNat) := by
  have hl : k < s.data.toList.length := h
  unfold anyLt
  rw [List.take_succ_eq_append_getElem hl, List.any_append]
  simp
  rfl
theorem anyLt_take (l : List UInt8) (k : Nat) (h : anyLt (l.take k) = true) : anyLt l = true := by
  unfold anyLt at *
  rw [List.any_eq_true] at *
  obtain ⟨x, hx, hy⟩ := h
  exact ⟨x, List.mem_of_mem_take hx, hy⟩

set_option maxRecDepth 100000 in
theorem isCasedString_any (s : ByteArray) (w : World) (hlow : ∀ j (h : j < s.size), s[j].toNat < 128) :
    Calls Tryz.prog 42 #[.string s] w fun e w' => e = .returned (.bool (anyLt s.data.toList)) ∧ Below w.heap.size w w' := by
  go_enter Tryz.func42, Tryz.ntmps42
  go_wp2
  go_loopw [] (fun wr => ∃ pos : Nat, pos ≤ s.size ∧ wr.heap[w.heap.size]? = some (.stringIter s pos) ∧ Below w.heap.size w wr ∧ anyLt (s.data.toList.take pos) = false) (fun wr => s.size - wr.iterPos w.heap.size)
  case atStart => exact ⟨0, Nat.zero_le _, World.iter_heap w s 0, (Below.refl _ w).alloc (Nat.le_refl _) _, by simp [anyLt]⟩
  case round =>
    obtain ⟨pos, hpos, hit, hbw, hno⟩ := hrel
    have hsz : w.heap.size < wr.heap.size := (Array.getElem?_eq_some_iff.1 hit).1
    by_cases hp : pos < s.size
    · have hnx : ∀ ty, (Instr.next (.pointer (some ⟨w.heap.size, 0, none⟩)) true ty).run Tryz.prog wr = _ := fun ty => Lib.run_next_ascii_at wr w.heap.size s pos ty hit hp (hlow pos hp)
      have hit2 := Lib.iterAt_heap wr w.heap.size s pos (pos + 1) hit
      have hbw2 := Lib.below_iterAt hbw (k := w.heap.size) (by omega) s (pos + 1)
      have hl := hlow pos hp
      have hst := anyLt_succ s pos hp
      rw [hno, Bool.false_or] at hst
      clear hno
      cases hc : ltB s[pos].toNat
      · have HN : Hid (anyLt (s.data.toList.take (pos + 1)) = false) := by rw [hc] at hst; exact hst
        clear hst
        go_wp2_with (go_at_call 54; refine (isCased_any _ _ (by omega) (by omega)).mono ?_; rintro e w' ⟨rfl, rfl⟩)
        go_roundw
        case rel => exact ⟨pos + 1, by omega, hit2, hbw2, HN.out⟩
        case measure =>
          simp only [World.iterPos, hit2, hit]
          omega
      · have HN : Hid (anyLt s.data.toList = true) := by rw [hc] at hst; exact anyLt_take _ _ hst
        clear hst
        go_wp2_with (go_at_call 54; refine (isCased_any _ _ (by omega) (by omega)).mono ?_; rintro e w' ⟨rfl, rfl⟩)
        go_ret
        exact ⟨ret_bool HN.out.symm, hbw2⟩
    · have hnx : ∀ ty, (Instr.next (.pointer (some ⟨w.heap.size, 0, none⟩)) true ty).run Tryz.prog wr = _ := fun ty => Lib.run_next_end_at wr w.heap.size s pos ty hit hp
      obtain rfl : pos = s.size := by omega
      have ht : s.data.toList.take s.size = s.data.toList := List.take_of_length_le (Nat.le_refl _)
      rw [ht] at hno
      have HN := Lib.hid hno
      clear hno ht
      go_wp2
      go_ret
      exact ⟨ret_bool HN.out.symm, hbw⟩

def upByte (c : UInt8) : UInt8 := if loB c.toNat then c - 32 else c
theorem upByte_toNat (c : UInt8) : ((upByte c).toNat : Int) = toUp c.toNat := by
  unfold upByte toUp
  by_cases h : loB c.toNat = true
  · have h2 := sub32 c h
    have h3 := h
    simp [loB] at h3
    simp only [h, if_true]
    rw [if_pos (by omega), ← h2]
  · have h3 := h
    simp [loB] at h3
    simp only [h, Bool.false_eq_true, if_false]
    rw [if_neg (by omega)]
theorem toUp_bd (c : Int) (h0 : 0 ≤ c) (h1 : c < 128) : 0 ≤ toUp c ∧ toUp c < 128 := by unfold toUp; split <;> omega
theorem runeCells_byte (b : UInt8) (h : b.toNat < 128) : Lib.runeCells (b.toNat : Int) = Lib.byteCells [b] := by
  unfold Lib.runeCells
  rw [Lib.encodeRuneZ_one (by omega) (by omega)]
  rfl

/-- The second loop's walk: the rest of the text, rune by rune, onto what the builder holds. -/
def upTo (l : List UInt8) (k : Nat) : List UInt8 := (l.take k).map upByte
theorem upTo_succ (s : ByteArray) (k : Nat) (h : k < s.size) : upTo s.data.toList (k + 1) = upTo s.data.toList k ++ [upByte s[k]] := by
  have hl : k < s.data.toList.length := h
  unfold upTo
  rw [List.take_succ_eq_append_getElem hl, List.map_append]
  rfl
theorem upTo_length (l : List UInt8) (k : Nat) (h : k ≤ l.length) : (upTo l k).length = k := by simp [upTo]; omega

end Go.Proofs.YtaogljodhjnfiaaGreatDoor
