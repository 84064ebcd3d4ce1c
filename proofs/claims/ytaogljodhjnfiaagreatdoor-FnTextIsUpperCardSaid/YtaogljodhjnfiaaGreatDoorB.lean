/- spec.Ascii at every string: the first 60 bytes without their highest bits. -/
import Derived.Test.YtaogljodhjnfiaaGreatDoorBase
import Derived.Test.YtaogljodhjnfiaaGreatDoorA
import Derived.Lib.Strings
namespace Go.Proofs.YtaogljodhjnfiaaGreatDoor
open Go.RowKit
set_option linter.unusedVariables false

def m7 (b : UInt8) : UInt8 := b &&& 127
def asciiL (l : List UInt8) : List UInt8 := (l.take 60).map m7

theorem bits127 (b : UInt8) : bits .and .u8 (b.toNat : Int) 127 = ((m7 b).toNat : Int) := by
  have := u8_and_nat b.toNat 127 (UInt8.toNat_lt b) (by omega)
  simpa [m7] using this

/-- What the row holds after k rounds. -/
def maskTo (l : List UInt8) (k : Nat) : List UInt8 := (l.take k).map m7 ++ l.drop k

theorem maskTo_zero (l : List UInt8) : maskTo l 0 = l := by simp [maskTo]
theorem maskTo_length (l : List UInt8) (k : Nat) : (maskTo l k).length = l.length := by simp [maskTo]; omega
theorem maskTo_end (l : List UInt8) : maskTo l l.length = l.map m7 := by simp [maskTo]
theorem maskTo_at (l : List UInt8) (k : Nat) (h : k < l.length) : (maskTo l k)[k]'(by rw [maskTo_length]; exact h) = l[k] := by
  simp only [maskTo]
  rw [List.getElem_append_right (by simp; omega)]
  simp
  congr 1
  omega
theorem set_append_at (a : List UInt8) (x y : UInt8) (r : List UInt8) (k : Nat) (h : a.length = k) : (a ++ x :: r).set k y = a ++ y :: r := by
  subst h; simp
theorem maskTo_succ (l : List UInt8) (k : Nat) (h : k < l.length) : (maskTo l k).set k (m7 l[k]) = maskTo l (k + 1) := by
  have e1 : ((l.take k).map m7).length = k := by simp; omega
  have e2 : l.drop k = l[k] :: l.drop (k + 1) := List.drop_eq_getElem_cons h
  unfold maskTo
  rw [e2, set_append_at _ _ _ _ _ e1, List.take_succ_eq_append_getElem h, List.map_append, List.append_assoc]
  rfl

/-- What a round of the loop does, in the walk's own spelling. -/
theorem mask_rel (w wr : World) (l : List UInt8) (k : Nat) (h : k < l.length) (hb : Below w.heap.size w wr) (hr : BRow wr w.heap.size (maskTo l k)) :
    wr.cell? ⟨w.heap.size, k, none⟩ = some (.int .u8 (l[k].toNat : Int)) ∧ wr.frozen? ⟨w.heap.size, k, none⟩ = false ∧
    BRow (wr.setCell ⟨w.heap.size, k, none⟩ (.int .u8 ((m7 l[k]).toNat : Int))) w.heap.size (maskTo l (k + 1)) ∧
    Below w.heap.size w (wr.setCell ⟨w.heap.size, k, none⟩ (.int .u8 ((m7 l[k]).toNat : Int))) := by
  have hk : k < (maskTo l k).length := by rw [maskTo_length]; exact h
  refine ⟨?_, hr.2 k hk, ?_, hb.setCell (Nat.le_refl _) _⟩
  · rw [hr.1 k hk, maskTo_at l k h]
  · rw [← maskTo_succ l k h]; exact hr.set k hk _

set_option maxRecDepth 100000 in
theorem ascii_big (s : ByteArray) (w : World) (hs : s.size ≤ maxLen) (hx : 60 < s.size) :
    Calls Tryz.prog 4 #[.string s] w fun e w' => e = .returned (.string ⟨((s.extract 0 60).data.toList.map m7).toArray⟩) ∧ Below w.heap.size w w' := by
  unfold maxLen at hs
  have hcv := fun (w : World) => run_bytes_of_string (P := Tryz.prog) w 9 23 5 (s.extract 0 60) Tryz.underlying9 Tryz.underlying23 Tryz.underlying5
  have hsz : (s.extract 0 60).size = 60 := by rw [ByteArray.size_extract]; omega
  have hlen : (s.extract 0 60).data.toList.length = 60 := hsz
  have hx' : (60 : Int) < s.size := by omega
  have hstart : BRow (w.alloc (.cells (bytesRow (s.extract 0 60) (grownCap w 60 0 5)) 5 ((bytesRow (s.extract 0 60) (grownCap w 60 0 5)).size, (bytesRow (s.extract 0 60) (grownCap w 60 0 5)).size + 1))).drew w.heap.size (maskTo (s.extract 0 60).data.toList 0) := by
    rw [maskTo_zero]; exact (brow_made w _ _ _ _ _ (bytesRow_size _ _)).drew
  have HS := Lib.hid hstart
  have HL := Lib.hid hlen
  clear hstart hlen
  go_enter Tryz.func4, Tryz.ntmps4
  go_wp2_with fail
  clear hcv
  generalize hl : (s.extract 0 60).data.toList = l at HS HL ⊢
  have Hl := Lib.hid hl
  clear hl
  go_loopw [13] (fun i wr => ∃ k : Nat, k ≤ 60 ∧ i = .int .i64 k ∧ BRow wr w.heap.size (maskTo l k) ∧ Below w.heap.size w wr) (fun i _ => 60 - (intOf i).toNat)
  case atStart => exact ⟨0, by omega, rfl, HS.out, ((Below.refl _ w).alloc (Nat.le_refl _) _).drew⟩
  case round =>
    obtain ⟨k, hk, rfl, hr, hb⟩ := hrel
    by_cases hlt : k < 60
    · have hkl : k < l.length := by rw [HL.out]; exact hlt
      obtain ⟨c1, c2, c3, c4⟩ := mask_rel w wr l k hkl hb hr
      have hb7 := bits127 l[k]
      have HR := Lib.hid c3
      have HB := Lib.hid c4
      clear c3 c4 hr hb
      go_wp2
      exact ⟨⟨k + 1, by omega, by go_num, HR.out, HB.out⟩, by simp [intOf]; omega⟩
    · obtain rfl : k = 60 := by omega
      have hm : maskTo l 60 = l.map m7 := by have := maskTo_end l; rwa [HL.out] at this
      have hml : (l.map m7).length = 60 := by rw [List.length_map]; exact HL.out
      have hback := fun cap => run_convert_bytes_back (P := Tryz.prog) wr 23 9 5 ⟨w.heap.size, 0, none⟩ cap (l.map m7) Tryz.underlying23 Tryz.underlying5 Tryz.underlying9 (fun j hj => by
        rw [add_off]; have := hr.1 j (by rw [hm]; exact hj); rw [this]; simp only [hm])
      rw [hml] at hback
      have HM := Lib.hid hm
      have HML := Lib.hid hml
      clear hm hml
      go_wp2
      go_ret
      exact ⟨by rw [Hl.out]; rfl, hb⟩
set_option maxRecDepth 100000 in
theorem ascii_small (s : ByteArray) (w : World) (hs : s.size ≤ maxLen) (hx : s.size ≤ 60) :
    Calls Tryz.prog 4 #[.string s] w fun e w' => e = .returned (.string ⟨(s.data.toList.map m7).toArray⟩) ∧ Below w.heap.size w w' := by
  unfold maxLen at hs
  have hcv := fun (w : World) => run_bytes_of_string (P := Tryz.prog) w 9 23 5 s Tryz.underlying9 Tryz.underlying23 Tryz.underlying5
  have hlen : s.data.toList.length = s.size := rfl
  have hx' : (s.size : Int) ≤ 60 := by omega
  have hstart : BRow (w.alloc (.cells (bytesRow s (grownCap w s.size 0 5)) 5 ((bytesRow s (grownCap w s.size 0 5)).size, (bytesRow s (grownCap w s.size 0 5)).size + 1))).drew w.heap.size (maskTo s.data.toList 0) := by
    rw [maskTo_zero]; exact (brow_made w _ _ _ _ _ (bytesRow_size _ _)).drew
  have HS := Lib.hid hstart
  have HL := Lib.hid hlen
  clear hstart hlen
  go_enter Tryz.func4, Tryz.ntmps4
  go_wp2_with fail
  clear hcv
  generalize hl : s.data.toList = l at HS HL ⊢
  have Hl := Lib.hid hl
  clear hl
  go_loopw [13] (fun i wr => ∃ k : Nat, k ≤ s.size ∧ i = .int .i64 k ∧ BRow wr w.heap.size (maskTo l k) ∧ Below w.heap.size w wr) (fun i _ => s.size - (intOf i).toNat)
  case atStart => exact ⟨0, by omega, rfl, HS.out, ((Below.refl _ w).alloc (Nat.le_refl _) _).drew⟩
  case round =>
    obtain ⟨k, hk, rfl, hr, hb⟩ := hrel
    by_cases hlt : k < s.size
    · have hkl : k < l.length := by rw [HL.out]; exact hlt
      obtain ⟨c1, c2, c3, c4⟩ := mask_rel w wr l k hkl hb hr
      have hb7 := bits127 l[k]
      have HR := Lib.hid c3
      have HB := Lib.hid c4
      clear c3 c4 hr hb
      go_wp2
      exact ⟨⟨k + 1, by omega, by go_num, HR.out, HB.out⟩, by simp [intOf]; omega⟩
    · obtain rfl : k = s.size := by omega
      have hm : maskTo l s.size = l.map m7 := by have := maskTo_end l; rwa [HL.out] at this
      have hml : (l.map m7).length = s.size := by rw [List.length_map]; exact HL.out
      have hback := fun cap => run_convert_bytes_back (P := Tryz.prog) wr 23 9 5 ⟨w.heap.size, 0, none⟩ cap (l.map m7) Tryz.underlying23 Tryz.underlying5 Tryz.underlying9 (fun j hj => by
        rw [add_off]; have := hr.1 j (by rw [hm]; exact hj); rw [this]; simp only [hm])
      rw [hml] at hback
      have HM := Lib.hid hm
      have HML := Lib.hid hml
      clear hm hml
      go_wp2
      go_ret
      exact ⟨by rw [Hl.out]; rfl, hb⟩

theorem ascii_any (s : ByteArray) (w : World) (hs : s.size ≤ maxLen) :
    Calls Tryz.prog 4 #[.string s] w fun e w' => e = .returned (.string ⟨(asciiL s.data.toList).toArray⟩) ∧ Below w.heap.size w w' := by
  by_cases hx : s.size ≤ 60
  · have e : asciiL s.data.toList = s.data.toList.map m7 := by
      unfold asciiL; rw [List.take_of_length_le (by simpa using hx)]
    rw [e]; exact ascii_small s w hs hx
  · have e : asciiL s.data.toList = (s.extract 0 60).data.toList.map m7 := by
      unfold asciiL
      congr 1
      rw [Lib.extract_data]
      simp
    rw [e]; exact ascii_big s w hs (by omega)
theorem asciiL_length (l : List UInt8) : (asciiL l).length ≤ 60 := by simp [asciiL]; omega
theorem asciiL_low (l : List UInt8) : ∀ b ∈ asciiL l, b.toNat < 128 := by
  intro b hb
  simp only [asciiL, List.mem_map] at hb
  obtain ⟨c, _, rfl⟩ := hb
  have : (m7 c).toNat = c.toNat &&& 127 := by simp [m7]
  rw [this]
  have := Nat.and_le_right (n := c.toNat) (m := 127)
  omega
end Go.Proofs.YtaogljodhjnfiaaGreatDoor
