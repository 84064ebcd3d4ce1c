/- The law FnTextIsUpper, walked: it returns true at every string. -/
import Derived.Test.YtaogljodhjnfiaaGreatDoorEu
import Derived.Test.YtaogljodhjnfiaaGreatDoorFu
namespace Go.Proofs.YtaogljodhjnfiaaGreatDoor
open Go.RowKit
set_option linter.unusedVariables false

theorem ascii_size (l : List UInt8) : (⟨(asciiL l).toArray⟩ : ByteArray).size ≤ 60 := by
  have := asciiL_length l
  simpa [ByteArray.size] using this
theorem ascii_low (l : List UInt8) : ∀ j (h : j < (⟨(asciiL l).toArray⟩ : ByteArray).size), (⟨(asciiL l).toArray⟩ : ByteArray)[j].toNat < 128 := by
  intro j h
  have h' : j < (asciiL l).length := by simpa [ByteArray.size] using h
  have := asciiL_low l (asciiL l)[j] (List.getElem_mem h')
  exact this

set_option maxRecDepth 100000 in
set_option maxHeartbeats 1000000 in
theorem law_isupper (s : ByteArray) (w : World) (hs : s.size ≤ maxLen) :
    Calls Tryz.prog 3 #[.string s] w fun e w' => e = .returned (.bool true) ∧ Below w.heap.size w w' := by
  have hs' := hs
  unfold maxLen at hs
  by_cases hbig : 2147483647 < s.size
  · have hbig' : (2147483647 : Int) < s.size := by omega
    go_enter Tryz.func3, Tryz.ntmps3
    go_wp2
    go_ret
    exact ⟨rfl, Below.refl _ _⟩
  · have hbig' : ¬ (2147483647 : Int) < s.size := by omega
    have HA := Lib.hid (ascii_low s.data.toList)
    have HZ := Lib.hid (ascii_size s.data.toList)
    go_enter Tryz.func3, Tryz.ntmps3
    go_wp2_with fail
    refine (ascii_any s _ hs').mono ?_
    rintro e w1 ⟨rfl, hb1⟩
    generalize (⟨(asciiL s.data.toList).toArray⟩ : ByteArray) = t at HA HZ
    go_wp2_with fail
    refine (asked_isupper t w1 HZ.out).mono ?_
    rintro e w2 ⟨rfl, hb2⟩
    have hT := textIsUpper_any t
    cases hg : (noLo t.data.toList && anyUp t.data.toList)
    all_goals
      have hT := hT
      rw [hg] at hT
      have HT := Lib.hid hT
      clear hT hg
      go_wp2_with fail
      refine (HT.out _ HZ.out HA.out).mono ?_
      rintro e w3 ⟨rfl, hb3⟩
    · have hsz : (w2.alloc (.cells #[.int .i64 1, .bool false, .slice none 0 0, .int .u64 0, .string ⟨#[]⟩, .slice none 0 0] 27)).heap.size = w2.heap.size + 1 := by simp
      have c4 : w3.cell? ⟨w2.heap.size, 3, none⟩ = some (.int .u64 0) := by
        rw [hb3.cell (p := ⟨w2.heap.size, 3, none⟩) (by rw [hsz]; exact Nat.lt_succ_self _)]
        exact World.cell?_alloc_mark _ _ _ _ 3
      have hb : Below w.heap.size w w3 := ((hb1.trans (hb2.mono hb1.size)).alloc (Nat.le_trans hb1.size hb2.size) _).trans (hb3.mono (by rw [hsz]; have := hb1.size; have := hb2.size; omega))
      clear hsz hb3
      go_wp2
      go_ret
      exact ⟨rfl, hb⟩
    · have hsz : (w2.alloc (.cells #[.int .i64 1, .bool false, .slice none 0 0, .int .u64 1, .string ⟨#[]⟩, .slice none 0 0] 27)).heap.size = w2.heap.size + 1 := by simp
      have c4 : w3.cell? ⟨w2.heap.size, 3, none⟩ = some (.int .u64 1) := by
        rw [hb3.cell (p := ⟨w2.heap.size, 3, none⟩) (by rw [hsz]; exact Nat.lt_succ_self _)]
        exact World.cell?_alloc_mark _ _ _ _ 3
      have hb : Below w.heap.size w w3 := ((hb1.trans (hb2.mono hb1.size)).alloc (Nat.le_trans hb1.size hb2.size) _).trans (hb3.mono (by rw [hsz]; have := hb1.size; have := hb2.size; omega))
      clear hsz hb3
      go_wp2
      go_ret
      exact ⟨rfl, hb⟩
end Go.Proofs.YtaogljodhjnfiaaGreatDoor
