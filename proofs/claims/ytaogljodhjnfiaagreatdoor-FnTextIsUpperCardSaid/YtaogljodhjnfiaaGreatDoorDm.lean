/- strings.Map with ToUpper, at texts of bytes below 128. -/
import Derived.Test.YtaogljodhjnfiaaGreatDoorDu
namespace Go.Proofs.YtaogljodhjnfiaaGreatDoor
open Go.RowKit
set_option linter.unusedVariables false

theorem toUp_nolo (c : Int) (h : loB c = false) : toUp c = c := by
  simp [loB] at h; unfold toUp; rw [if_neg (by omega)]
theorem upTo_same (s : ByteArray) (k : Nat) (h : k < s.size) (hlo : loB s[k].toNat = false) (e : upTo s.data.toList k = s.data.toList.take k) : upTo s.data.toList (k + 1) = s.data.toList.take (k + 1) := by
  have hl : k < s.data.toList.length := h
  rw [upTo_succ s k h, e, List.take_succ_eq_append_getElem hl]
  unfold upByte
  rw [hlo]
  rfl
theorem upTo_all (s : ByteArray) : upTo s.data.toList s.size = s.data.toList.map upByte := by
  have : s.data.toList.take s.size = s.data.toList := List.take_of_length_le (Nat.le_refl _)
  unfold upTo; rw [this]

/-- What is left behind the first rune that does not stay. -/
theorem upTo_rest (s : ByteArray) (k : Nat) (h : k < s.size) (e : upTo s.data.toList k = s.data.toList.take k) :
    s.data.toList.take k ++ [upByte s[k]] ++ (s.extract (k + 1) s.size).data.toList.map upByte = s.data.toList.map upByte := by
  have hl : k < s.data.toList.length := h
  have e1 : (s.extract (k + 1) s.size).data.toList = s.data.toList.drop (k + 1) := by
    rw [Lib.extract_data, List.take_of_length_le]
    rw [List.length_drop]
    show s.size - _ ≤ _
    omega
  rw [e1, ← e, ← upTo_succ s k h]
  unfold upTo
  rw [← List.map_append, List.take_append_drop]

theorem cap_any (b n cap : Nat) (p : Option Addr) (w : World) (c1 : w.cell? ⟨b, 1, none⟩ = some (.slice p n cap)) :
    Calls Tryz.prog 60 #[.pointer (some ⟨b, 0, none⟩)] w fun e w' => e = .returned (.int .i64 cap) ∧ w = w' := by
  go_enter Tryz.func60, Tryz.ntmps60
  go_wp2
  go_ret
  exact ⟨rfl, rfl⟩

theorem low_extract (s t : ByteArray) (k : Nat) (ht : t = s.extract k s.size) (hlow : ∀ j (h : j < s.size), s[j].toNat < 128) : ∀ j (h : j < t.size), t[j].toNat < 128 := by
  intro j h
  have e1 : t.data.toList = s.data.toList.drop k := by
    rw [ht, Lib.extract_data, List.take_of_length_le]
    rw [List.length_drop]
    show s.size - _ ≤ _
    omega
  have hj : j < (s.data.toList.drop k).length := by rw [← e1]; exact h
  have e2 : t[j] = (s.data.toList.drop k)[j] := by
    show t.data.toList[j] = _
    simp only [e1]
  rw [e2, List.getElem_drop]
  have hk : k + j < s.size := by rw [List.length_drop] at hj; have : s.data.toList.length = s.size := rfl; omega
  exact hlow (k + j) hk

set_option maxRecDepth 100000 in
set_option maxHeartbeats 4000000 in
theorem map_ascii (s : ByteArray) (w : World) (hs : s.size ≤ 60) (hlow : ∀ j (h : j < s.size), s[j].toNat < 128) :
    Calls Tryz.prog 43 #[.func (.func 44) #[] #[], .string s] w fun e w' =>
      e = .returned (.string ⟨(s.data.toList.map upByte).toArray⟩) ∧ Below w.heap.size w w' := by
  have HL := Lib.hid hlow
  clear hlow
  go_enter Tryz.func43, Tryz.ntmps43
  go_wp2
  go_loopw [1] (fun s1 wx => s1 = .string s ∧ ∃ pos : Nat, wx.heap[w.heap.size]? = some (.cells #[.pointer none, .slice none 0 0] 101 (0, 0)) ∧ wx.heap[w.heap.size + 1]? = some (.stringIter s pos) ∧ Below w.heap.size w wx ∧ pos ≤ s.size ∧ upTo s.data.toList pos = s.data.toList.take pos) (fun _ wr => s.size - wr.iterPos (w.heap.size + 1))
  case atStart =>
    refine ⟨rfl, 0, ?_, ?_, ((Below.refl _ w).alloc (Nat.le_refl _) _).alloc (by simp) _, Nat.zero_le _, by simp [upTo]⟩
    · have h1 : (w.alloc (.cells #[.pointer none, .slice none 0 0] 101)).heap[w.heap.size]? = some (.cells #[.pointer none, .slice none 0 0] 101 (0, 0)) := by show (w.heap.push _)[w.heap.size]? = _; simp
      exact (Below.heap_alloc _ _ _ (by simp)).trans h1
    · have := World.iter_heap (w.alloc (.cells #[.pointer none, .slice none 0 0] 101)) s 0
      simpa using this
  case round =>
    obtain ⟨rfl, pos, hfr, hit, hbw, hps, hsame⟩ := hrel
    have hsz : w.heap.size + 1 < wr.heap.size := (Array.getElem?_eq_some_iff.1 hit).1
    by_cases hp : pos < s.size
    · have hl := HL.out pos hp
      have hnx : ∀ ty, (Instr.next (.pointer (some ⟨w.heap.size + 1, 0, none⟩)) true ty).run Tryz.prog wr = _ := fun ty => Lib.run_next_ascii_at wr (w.heap.size + 1) s pos ty hit hp hl
      have hit2 := Lib.iterAt_heap wr (w.heap.size + 1) s pos (pos + 1) hit
      have hbw2 := Lib.below_iterAt hbw (k := w.heap.size + 1) (by omega) s (pos + 1)
      have hfr2 : (wr.iterAt (w.heap.size + 1) s (pos + 1)).heap[w.heap.size]? = _ := (Lib.iterAt_other wr (w.heap.size + 1) w.heap.size s (pos + 1) (by omega)).trans hfr
      obtain ⟨W, hWd⟩ : ∃ W, wr.iterAt (w.heap.size + 1) s (pos + 1) = W := ⟨_, rfl⟩
      rw [hWd] at hnx hit2 hbw2 hfr2
      have hm : wr.iterPos (w.heap.size + 1) = pos := by simp only [World.iterPos, hit]
      have HM := Lib.hid hm
      clear hm hWd hfr hbw
      have hn0 : ((s[pos].toNat : Int) != 65533) = true := by simp; omega
      have hn1 : ((s[pos].toNat : Int) == 65533) = false := by simp; omega
      cases hlo : loB s[pos].toNat
      · have HU := Lib.hid (toUp_nolo _ hlo)
        have HS := Lib.hid (upTo_same s pos hp hlo hsame)
        clear hlo hsame
        go_wp2_with (go_at_call 44; refine (toUpper_any _ _ (by omega) (by omega)).mono ?_; rintro e w' ⟨rfl, rfl⟩; rw [HU.out])
        go_roundw
        case rel => exact ⟨rfl, pos + 1, hfr2, hit2, hbw2, by omega, HS.out⟩
        case measure =>
          simp only [World.iterPos, hit2, hit]
          omega
      · have hlo' := hlo
        simp [loB] at hlo'
        obtain ⟨l1, l2⟩ := hlo'
        obtain ⟨M, hM⟩ : ∃ M, toUp (s[pos].toNat : Int) = M := ⟨_, rfl⟩
        have hMe : M = (s[pos].toNat : Int) - 32 := by rw [← hM]; unfold toUp; rw [if_pos (by omega)]
        have m0 : 0 ≤ M := by omega
        have m1 : M < 128 := by omega
        have m2 : (M == (s[pos].toNat : Int)) = false := by simp; omega
        have hch : Lib.runeCells M = Lib.byteCells [upByte s[pos]] := by
          rw [← hM, ← upByte_toNat]
          exact runeCells_byte _ (by have := upByte_toNat s[pos]; rw [hM] at this; omega)
        have HC := Lib.hid hch
        have HX := Lib.hid (upTo_rest s pos hp hsame)
        have HU := Lib.hid hM
        have cG := Tryz.Builder_Grow_fresh_cap w.heap.size w.heap.size (s.size + 4) W (Nat.le_refl _) hfr2 hbw2.size (by omega)
        rw [show ((s.size + 4 : Nat) : Int) = (s.size : Int) + 4 from by omega] at cG
        have CG := Lib.hid cG
        clear hM hMe hlo hch hsame cG
        go_wp2_with (first | (go_at_call 44; refine (toUpper_any _ _ (by omega) (by omega)).mono ?_; rintro e w' ⟨rfl, rfl⟩; rw [HU.out]) | (go_at_call 56; go_in))
        refine CG.out.mono ?_
        rintro e W4 ⟨rfl, ⟨h4, b4⟩, _⟩
        have hlen : s.data.toList.length = s.size := rfl
        have hxd : (s.extract 0 pos).data.toList = s.data.toList.take pos := by rw [Lib.extract_data]; simp
        have hxs : (s.extract 0 pos).size = pos := by rw [Lib.size_eq, hxd, List.length_take, hlen]; omega
        have hcs : [] ++ Lib.strCells (s.extract 0 pos) = Lib.byteCells (s.data.toList.take pos) := by rw [List.nil_append, Lib.strCells_eq, hxd]
        have cS := Tryz.Builder_WriteString_k w.heap.size w.heap.size [] (s.extract 0 pos) W4 (Lib.IsBuilderF.of (Or.inr h4)) (by rw [hxs]; simp; omega) (Nat.le_trans hbw2.size b4.size)
        rw [hcs, hxs] at cS
        have CS := Lib.hid cS
        clear cS hcs hxs hxd CG hfr2
        go_wp2_with fail
        refine CS.out.mono ?_
        rintro e W5 ⟨rfl, h5, b5, _⟩
        clear CS
        have cR := Tryz.Builder_WriteRune_k w.heap.size w.heap.size (Lib.byteCells (s.data.toList.take pos)) M (by omega) (by omega) W5 (Or.inr h5) (by rw [Lib.byteCells_length, List.length_take, hlen]; omega) (Nat.le_trans (Nat.le_trans hbw2.size b4.size) b5.size)
        rw [HC.out, ← Lib.byteCells_append] at cR
        have CR := Lib.hid cR
        clear cR
        go_wp2_with fail
        refine CR.out.mono ?_
        rintro e W6 ⟨rfl, h6, b6, _⟩
        clear CR
        have hbw6 : Below w.heap.size w W6 := ((hbw2.trans b4).trans b5).trans b6
        obtain ⟨g6, cap6, hc6, hcap6⟩ : ∃ g6 cap6, W6.cell? ⟨w.heap.size, 1, none⟩ = some (.slice (some ⟨g6, 0, none⟩) (Lib.byteCells (s.data.toList.take pos ++ [upByte s[pos]])).length cap6) ∧ 1 ≤ cap6 := by
          obtain ⟨_, v6, hv6, hown6, _⟩ := h6
          rcases hown6.2 with ⟨_, h0⟩ | ⟨g6, cap6, _, _, rfl, _, _, _, hnc, _⟩
          · rw [Lib.byteCells_length] at h0; simp at h0
          · refine ⟨g6, cap6, by rw [Lib.cell_of_heap hv6]; rfl, ?_⟩
            rw [Lib.byteCells_length] at hnc
            simp at hnc
            omega
        have hcapb : ((cap6 : Int) == 0) = false := by simp; omega
        have hlt6 : w.heap.size < W6.heap.size := by obtain ⟨_, v6, hv6, _⟩ := h6; exact (Array.getElem?_eq_some_iff.1 hv6).1
        have hI6 := Lib.hid h6
        clear h4 h5 h6 b4 b5 b6 hit2 hit hbw2
        go_wp2_with (go_at_call 60; refine (cap_any _ _ _ _ _ hc6).mono ?_; rintro e w' ⟨rfl, rfl⟩)
        obtain ⟨t, ht⟩ : ∃ t, t = s.extract (pos + 1) s.size := ⟨_, rfl⟩
        have htl := low_extract s t (pos + 1) ht HL.out
        have htz : t.size ≤ 60 := by rw [ht, ByteArray.size_extract]; omega
        have hx := HX.out
        rw [← ht] at hx
        rw [← ht]
        have HX2 := Lib.hid hx
        have HTL := Lib.hid htl
        clear hx htl HX ht hc6
        have hpz : (s.data.toList.take pos ++ [upByte s[pos]]).length ≤ 61 := by rw [List.length_append, List.length_take]; simp; omega
        generalize s.data.toList.take pos ++ [upByte s[pos]] = pre at hI6 HX2 hpz
        clear hn0 hn1 l1 l2 m0 m1 m2 HC HU hcapb hcap6
        go_loopw [] (fun wx => ∃ q : Nat, q ≤ t.size ∧ Lib.IsBuilderF 101 5 w.heap.size w.heap.size (Lib.byteCells (pre ++ upTo t.data.toList q)) wx ∧ wx.heap[W6.heap.size]? = some (.stringIter t q) ∧ Below w.heap.size w wx) (fun wx => t.size - wx.iterPos W6.heap.size)
        case atStart =>
          refine ⟨0, Nat.zero_le _, ?_, World.iter_heap W6 t 0, hbw6.alloc hbw6.size _⟩
          have e : pre ++ upTo t.data.toList 0 = pre := by simp [upTo]
          rw [e]
          exact Lib.IsBuilderF.alloc (Or.inr hI6.out) _
        case round =>
          obtain ⟨q, hq, hI, hit, hbw⟩ := hrel
          have hszI : W6.heap.size < wr.heap.size := (Array.getElem?_eq_some_iff.1 hit).1
          have hBI := hbw6.size
          by_cases hq2 : q < t.size
          · have hl2 := HTL.out q hq2
            have hnx : ∀ ty, (Instr.next (.pointer (some ⟨W6.heap.size, 0, none⟩)) true ty).run Tryz.prog wr = _ := fun ty => Lib.run_next_ascii_at wr W6.heap.size t q ty hit hq2 hl2
            have hI2 := hI.iterAt hit (q + 1)
            have hit2 := Lib.iterAt_heap wr W6.heap.size t q (q + 1) hit
            have hbw2 := Lib.below_iterAt hbw (k := W6.heap.size) hBI t (q + 1)
            have hsz2 : w.heap.size ≤ (wr.iterAt W6.heap.size t (q + 1)).heap.size := by rw [Lib.iterAt_size]; omega
            obtain ⟨b1, b2⟩ := toUp_bd (t[q].toNat : Int) (by omega) (by omega)
            have hup : [Value.int .u8 (toUp (t[q].toNat : Int))] = Lib.byteCells [upByte t[q]] := by
              rw [← upByte_toNat]; rfl
            have HUP := Lib.hid hup
            clear hup
            have cB := Tryz.Builder_WriteByte_k w.heap.size w.heap.size (Lib.byteCells (pre ++ upTo t.data.toList q)) (toUp (t[q].toNat : Int)) _ hI2 (by rw [Lib.byteCells_length, List.length_append, upTo_length _ _ (by show q ≤ t.size; omega)]; omega) hsz2
            have CB := Lib.hid cB
            clear cB
            go_wp2_with (first | (go_at_call 44; refine (toUpper_any _ _ (by omega) (by omega)).mono ?_; rintro e w' ⟨rfl, rfl⟩) | (go_at_call 61; refine CB.out.mono ?_))
            rintro e W7 ⟨rfl, h7, q7, k7⟩
            go_wp2
            go_roundw
            case rel =>
              refine ⟨q + 1, by omega, ?_, k7.iter hit2 (by omega), hbw2.trans q7⟩
              rw [upTo_succ t q hq2, ← List.append_assoc, Lib.byteCells_append (pre ++ upTo t.data.toList q), ← HUP.out]
              exact Or.inr h7
            case measure =>
              simp only [World.iterPos, k7.iter hit2 (by omega), hit]
              omega
          · have hnx : ∀ ty, (Instr.next (.pointer (some ⟨W6.heap.size, 0, none⟩)) true ty).run Tryz.prog wr = _ := fun ty => Lib.run_next_end_at wr W6.heap.size t q ty hit hq2
            obtain rfl : q = t.size := by omega
            go_wp2_with (go_at_call 62; refine (Tryz.Builder_String_any_k w.heap.size w.heap.size (pre ++ upTo t.data.toList t.size) _ hI (by omega)).mono ?_)
            rintro e W7 ⟨rfl, _, q7, _⟩
            go_wp2
            go_ret
            exact ⟨by rw [upTo_all, HX2.out]; rfl, hbw.trans q7⟩
    · have hnx : ∀ ty, (Instr.next (.pointer (some ⟨w.heap.size + 1, 0, none⟩)) true ty).run Tryz.prog wr = _ := fun ty => Lib.run_next_end_at wr (w.heap.size + 1) s pos ty hit hp
      obtain rfl : pos = s.size := by omega
      have hall : s.data.toList.map upByte = s.data.toList := by
        have h2 : s.data.toList.take s.size = s.data.toList := List.take_of_length_le (Nat.le_refl _)
        rw [upTo_all, h2] at hsame
        exact hsame
      have HA := Lib.hid hall
      have c1 : wr.cell? ⟨w.heap.size, 1, none⟩ = some (.slice none 0 0) := by rw [Lib.cell_of_heap hfr]; rfl
      clear hsame hall
      go_wp2_with (go_at_call 60; refine (cap_any _ _ _ _ _ c1).mono ?_; rintro e w' ⟨rfl, rfl⟩)
      go_ret
      exact ⟨by rw [HA.out]; rfl, hbw⟩
end Go.Proofs.YtaogljodhjnfiaaGreatDoor
