/- spec.cases(s, "title"). -/
import Derived.Test.YtaogljodhjnfiaaGreatB
namespace Go.Proofs.YtaogljodhjnfiaaGreat
open Go.RowKit
set_option linter.unusedVariables false

/-- The byte that stands at a place, small or great by what stands ahead. -/
def tByte (p : Bool) (c : UInt8) : UInt8 := if p then (if upB c.toNat then c + 32 else c) else (if loB c.toNat then c - 32 else c)
/-- Whether a letter is ahead of place k. -/
def ahead (l : List UInt8) (k : Nat) : Bool := match k with | 0 => false | j + 1 => ltB (l.getD j 0).toNat
def tAt (l : List UInt8) (k : Nat) : UInt8 := tByte (ahead l k) (l.getD k 0)
def titleL (l : List UInt8) : List UInt8 := (List.range l.length).map (tAt l)
def titleTo (l : List UInt8) (k : Nat) : List UInt8 := (List.range k).map (tAt l) ++ l.drop k

theorem titleTo_zero (l : List UInt8) : titleTo l 0 = l := by simp [titleTo]
theorem titleTo_end (l : List UInt8) : titleTo l l.length = titleL l := by simp [titleTo, titleL]
theorem titleTo_length (l : List UInt8) (k : Nat) (h : k ≤ l.length) : (titleTo l k).length = l.length := by simp [titleTo]; omega
theorem titleTo_set (l : List UInt8) (k : Nat) (h : k < l.length) : (titleTo l k).set k (tAt l k) = titleTo l (k + 1) := by
  have e1 : ((List.range k).map (tAt l)).length = k := by simp
  have e2 : l.drop k = l[k] :: l.drop (k + 1) := List.drop_eq_getElem_cons h
  unfold titleTo
  rw [e2, set_append_at _ _ _ _ _ e1, List.range_succ, List.map_append, List.append_assoc]
  rfl
theorem titleTo_same (l : List UInt8) (k : Nat) (h : k < l.length) (hs : tAt l k = l[k]) : titleTo l (k + 1) = titleTo l k := by
  have e2 : l.drop k = l[k] :: l.drop (k + 1) := List.drop_eq_getElem_cons h
  unfold titleTo
  rw [e2, List.range_succ, List.map_append, List.append_assoc, List.map_singleton, hs]
  rfl


def titleName : ByteArray := ⟨#[116, 105, 116, 108, 101]⟩
abbrev textVal (s : ByteArray) : Value := .agg #[.int .i64 4, .bool false, .slice none 0 0, .int .u64 0, .string s, .slice none 0 0]


/-- The three kinds of a byte, for the walk. -/
theorem kinds3 (c : Int) : (upB c = true ∧ loB c = false ∧ 65 ≤ c ∧ c ≤ 90) ∨ (upB c = false ∧ loB c = true ∧ 97 ≤ c ∧ c ≤ 122) ∨ (upB c = false ∧ loB c = false) := by
  by_cases h1 : upB c = true
  · left; simp [upB] at h1; simp [upB, loB]; omega
  · by_cases h2 : loB c = true
    · right; left; simp [loB] at h2; simp [upB, loB]; omega
    · right; right; simp_all

theorem sub32 (c : UInt8) (h : loB c.toNat = true) : (c.toNat : Int) - 32 = ((c - 32).toNat : Int) := by
  simp [loB] at h
  have : (c - 32).toNat = c.toNat - 32 := by
    rw [UInt8.toNat_sub_of_le]; rfl
    rw [UInt8.le_iff_toNat_le]; simp; omega
  rw [this]; omega
theorem add32 (c : UInt8) (h : upB c.toNat = true) : (c.toNat : Int) + 32 = ((c + 32).toNat : Int) := by
  simp [upB] at h
  rw [UInt8.toNat_add]
  simp
  omega

def zeroVal : Obj := .cells #[.int .i64 0, .bool false, .slice none 0 0, .int .u64 0, .string ⟨#[]⟩, .slice none 0 0] 27

theorem zeroVal_cells {w wr : World} (hb : Below (w.heap.size + 1) (w.alloc zeroVal) wr) :
    wr.cell? ⟨w.heap.size, 0, none⟩ = some (.int .i64 0) ∧ wr.cell? ⟨w.heap.size, 1, none⟩ = some (.bool false) ∧ wr.cell? ⟨w.heap.size, 2, none⟩ = some (.slice none 0 0) ∧
    wr.cell? ⟨w.heap.size, 3, none⟩ = some (.int .u64 0) ∧ wr.cell? ⟨w.heap.size, 4, none⟩ = some (.string ⟨#[]⟩) ∧ wr.cell? ⟨w.heap.size, 5, none⟩ = some (.slice none 0 0) ∧
    (∀ j, wr.frozen? ⟨w.heap.size, j, none⟩ = false) ∧ w.heap.size < wr.heap.size := by
  have hz : ∀ j v, (#[Value.int .i64 0, .bool false, .slice none 0 0, .int .u64 0, .string ⟨#[]⟩, .slice none 0 0] : Array Value)[j]? = some v → wr.cell? ⟨w.heap.size, j, none⟩ = some v := by
    intro j v hv
    rw [hb.cell (p := ⟨w.heap.size, j, none⟩) (by simp)]
    unfold zeroVal
    rw [World.cell?_alloc_mark]; exact hv
  refine ⟨hz 0 _ rfl, hz 1 _ rfl, hz 2 _ rfl, hz 3 _ rfl, hz 4 _ rfl, hz 5 _ rfl, fun j => ?_, ?_⟩
  · rw [hb.frozen (p := ⟨w.heap.size, j, none⟩) (by simp)]
    unfold zeroVal
    rw [World.frozen?_alloc_mark]; simp
  · have := hb.size; simp at this; omega

set_option maxRecDepth 100000 in
theorem textVal_any (s : ByteArray) (w : World) : Calls Tryz.prog 26 #[.string s] w fun e w' => e = .returned (textVal s) ∧ Below w.heap.size w w' := by
  go_enter Tryz.func26, Tryz.ntmps26
  go_wp2
  exact bodyPost_ret (v := textVal s) (by simp [results, Tryz.results26, go_sem]) rfl ⟨rfl, (Below.refl _ _).alloc (Nat.le_refl _) _⟩

theorem titleTo_at (l : List UInt8) (k : Nat) (h : k < l.length) : (titleTo l k)[k]'(by rw [titleTo_length l k (by omega)]; exact h) = l[k] := by
  simp only [titleTo]
  rw [List.getElem_append_right (by simp)]
  simp

/-- What one round does to the row: as the walk spells it. The byte ahead: p; the byte: c. -/
theorem title_round (s : ByteArray) (k : Nat) (h : k < s.size) (W wr : World) (b : Nat) (hr : BRow wr b (titleTo s.data.toList k)) (hb : Below b W wr) :
    (∀ v, tAt s.data.toList k = v → wr.cell? ⟨b, k, none⟩ = some (.int .u8 (s[k].toNat : Int)) ∧ wr.frozen? ⟨b, k, none⟩ = false ∧
    BRow (wr.setCell ⟨b, k, none⟩ (.int .u8 (v.toNat : Int))) b (titleTo s.data.toList (k + 1)) ∧ Below b W (wr.setCell ⟨b, k, none⟩ (.int .u8 (v.toNat : Int)))) ∧
    (tAt s.data.toList k = s[k] → BRow wr b (titleTo s.data.toList (k + 1))) := by
  have hl : k < s.data.toList.length := h
  refine ⟨fun v hv => ?_, fun e => by rw [titleTo_same _ k hl e]; exact hr⟩
  have := brow_step (v := v) (l' := titleTo s.data.toList (k + 1)) hr (k := k) (by rw [titleTo_length _ k (by omega)]; exact hl) hb (Nat.le_refl _) (by rw [← hv]; exact titleTo_set _ k hl)
  rw [titleTo_at _ k hl] at this
  exact this

theorem tAt_eq (s : ByteArray) (k : Nat) (h : k < s.size) : tAt s.data.toList k = tByte (ahead s.data.toList k) s[k] := by
  unfold tAt
  congr 1
  rw [List.getD_eq_getElem?_getD, List.getElem?_eq_getElem (show k < s.data.toList.length from h)]
  rfl
theorem ahead_succ (s : ByteArray) (j : Nat) (h : j < s.size) : ahead s.data.toList (j + 1) = (upB s[j].toNat || loB s[j].toNat) := by
  simp only [ahead, ltB]
  rw [List.getD_eq_getElem?_getD, List.getElem?_eq_getElem (show j < s.data.toList.length from h)]
  rfl

set_option maxRecDepth 100000 in
set_option maxHeartbeats 4000000 in
theorem cases_title (s : ByteArray) (w : World) (hs : s.size ≤ 60) :
    Calls Tryz.prog 10 #[.string s, .string titleName] w fun e w' => e = .returned (textVal ⟨(titleL s.data.toList).toArray⟩) ∧ Below w.heap.size w w' := by
  unfold titleName
  have hcv := fun (w : World) => run_bytes_of_string (P := Tryz.prog) w 9 23 5 s Tryz.underlying9 Tryz.underlying23 Tryz.underlying5
  have HS : Hid (∀ c m n, s.size ≤ m → BRow ((w.alloc zeroVal).alloc (.cells (bytesRow s c) 5 (m, n))).drew (w.heap.size + 1) (titleTo s.data.toList 0)) := by
    intro c m n hm
    rw [titleTo_zero]
    have := (brow_made (w.alloc zeroVal) s c 5 m n hm).drew
    simpa using this
  go_enter Tryz.func10, Tryz.ntmps10
  go_wp2_with fail
  clear hcv
  generalize hcap : grownCap _ s.size 0 5 = cap
  clear hcap
  go_loopw [8] (fun i wr => ∃ k : Nat, k ≤ s.size ∧ i = .int .i64 k ∧ BRow wr (w.heap.size + 1) (titleTo s.data.toList k) ∧ Below (w.heap.size + 1) (w.alloc zeroVal) wr) (fun i _ => s.size - (intOf i).toNat)
  case atStart => exact ⟨0, by omega, rfl, HS.out _ _ _ (bytesRow_size _ _), ((Below.refl _ _).alloc (by simp) _).drew⟩
  case round =>
    obtain ⟨k, hk, rfl, hr, hb⟩ := hrel
    by_cases hlt : k < s.size
    · obtain ⟨hst, hsm⟩ := title_round s k hlt _ wr _ hr hb
      have ht := tAt_eq s k hlt
      have hsub := sub32 s[k]
      have hadd := add32 s[k]
      have hc := kinds3 (s[k].toNat : Int)
      by_cases h0 : k = 0
      · have hpa : ahead s.data.toList k = false := by rw [h0]; rfl
        have hk0 : ((k : Int) == 0) = true := by simp [h0]
        clear h0
        rcases hc with ⟨u, l, b1, b2⟩ | ⟨u, l, b1, b2⟩ | ⟨u, l⟩
        · have HB := Lib.hid hb
          have HR := Lib.hid (hsm (by rw [ht, hpa]; simp [tByte, l]))
          clear hst hsm ht hsub hadd hr hb hpa
          go_wp2_with (first | (go_at_call 21; refine (upper_any _ _).mono ?_; rintro e w' ⟨rfl, rfl⟩) | (go_at_call 22; refine (lower_any _ _).mono ?_; rintro e w' ⟨rfl, rfl⟩))
          go_roundw
          case rel => exact ⟨k + 1, by omega, by go_num, HR.out, HB.out⟩
          case measure => simp [intOf]; omega
        · obtain ⟨c1, c2, c3, c4⟩ := hst (s[k] - 32) (by rw [ht, hpa]; simp [tByte, l])
          have hv := hsub l
          have HB := Lib.hid c4
          have HR := Lib.hid c3
          clear hst hsm ht hsub hadd hr hb hpa c3 c4
          go_wp2_with (first | (go_at_call 21; refine (upper_any _ _).mono ?_; rintro e w' ⟨rfl, rfl⟩) | (go_at_call 22; refine (lower_any _ _).mono ?_; rintro e w' ⟨rfl, rfl⟩))
          go_roundw
          case rel => exact ⟨k + 1, by omega, by go_num, HR.out, HB.out⟩
          case measure => simp [intOf]; omega
        · have HB := Lib.hid hb
          have HR := Lib.hid (hsm (by rw [ht, hpa]; simp [tByte, l]))
          clear hst hsm ht hsub hadd hr hb hpa
          go_wp2_with (first | (go_at_call 21; refine (upper_any _ _).mono ?_; rintro e w' ⟨rfl, rfl⟩) | (go_at_call 22; refine (lower_any _ _).mono ?_; rintro e w' ⟨rfl, rfl⟩))
          go_roundw
          case rel => exact ⟨k + 1, by omega, by go_num, HR.out, HB.out⟩
          case measure => simp [intOf]; omega
      · obtain ⟨j, rfl⟩ : ∃ j, k = j + 1 := ⟨k - 1, by omega⟩
        have hj : j < s.size := by omega
        have hpa := ahead_succ s j hj
        have hp := kinds3 (s[j].toNat : Int)
        clear h0
        rcases hp with ⟨pu, pl, d1, d2⟩ | ⟨pu, pl, d1, d2⟩ | ⟨pu, pl⟩
        · rw [pu, pl] at hpa
          rcases hc with ⟨u, l, b1, b2⟩ | ⟨u, l, b1, b2⟩ | ⟨u, l⟩
          · obtain ⟨v, hdv⟩ : ∃ v, v = s[j + 1] + 32 := ⟨_, rfl⟩
            obtain ⟨c1, c2, c3, c4⟩ := hst v (by rw [ht, hpa, hdv]; simp [tByte, u])
            have hv := hadd u
            rw [← hdv] at hv
            clear hdv
            have HB := Lib.hid c4
            have HR := Lib.hid c3
            clear hst hsm ht hsub hadd hr hb hpa c3 c4
            go_wp2_with (first | (go_at_call 21; refine (upper_any _ _).mono ?_; rintro e w' ⟨rfl, rfl⟩) | (go_at_call 22; refine (lower_any _ _).mono ?_; rintro e w' ⟨rfl, rfl⟩))
            go_roundw
            case rel => exact ⟨j + 1 + 1, by omega, by go_num, HR.out, HB.out⟩
            case measure => simp [intOf]; omega
          · have HB := Lib.hid hb
            have HR := Lib.hid (hsm (by rw [ht, hpa]; simp [tByte, u]))
            clear hst hsm ht hsub hadd hr hb hpa
            go_wp2_with (first | (go_at_call 21; refine (upper_any _ _).mono ?_; rintro e w' ⟨rfl, rfl⟩) | (go_at_call 22; refine (lower_any _ _).mono ?_; rintro e w' ⟨rfl, rfl⟩))
            go_roundw
            case rel => exact ⟨j + 1 + 1, by omega, by go_num, HR.out, HB.out⟩
            case measure => simp [intOf]; omega
          · have HB := Lib.hid hb
            have HR := Lib.hid (hsm (by rw [ht, hpa]; simp [tByte, u]))
            clear hst hsm ht hsub hadd hr hb hpa
            go_wp2_with (first | (go_at_call 21; refine (upper_any _ _).mono ?_; rintro e w' ⟨rfl, rfl⟩) | (go_at_call 22; refine (lower_any _ _).mono ?_; rintro e w' ⟨rfl, rfl⟩))
            go_roundw
            case rel => exact ⟨j + 1 + 1, by omega, by go_num, HR.out, HB.out⟩
            case measure => simp [intOf]; omega
        · rw [pu, pl] at hpa
          rcases hc with ⟨u, l, b1, b2⟩ | ⟨u, l, b1, b2⟩ | ⟨u, l⟩
          · obtain ⟨v, hdv⟩ : ∃ v, v = s[j + 1] + 32 := ⟨_, rfl⟩
            obtain ⟨c1, c2, c3, c4⟩ := hst v (by rw [ht, hpa, hdv]; simp [tByte, u])
            have hv := hadd u
            rw [← hdv] at hv
            clear hdv
            have HB := Lib.hid c4
            have HR := Lib.hid c3
            clear hst hsm ht hsub hadd hr hb hpa c3 c4
            go_wp2_with (first | (go_at_call 21; refine (upper_any _ _).mono ?_; rintro e w' ⟨rfl, rfl⟩) | (go_at_call 22; refine (lower_any _ _).mono ?_; rintro e w' ⟨rfl, rfl⟩))
            go_roundw
            case rel => exact ⟨j + 1 + 1, by omega, by go_num, HR.out, HB.out⟩
            case measure => simp [intOf]; omega
          · have HB := Lib.hid hb
            have HR := Lib.hid (hsm (by rw [ht, hpa]; simp [tByte, u]))
            clear hst hsm ht hsub hadd hr hb hpa
            go_wp2_with (first | (go_at_call 21; refine (upper_any _ _).mono ?_; rintro e w' ⟨rfl, rfl⟩) | (go_at_call 22; refine (lower_any _ _).mono ?_; rintro e w' ⟨rfl, rfl⟩))
            go_roundw
            case rel => exact ⟨j + 1 + 1, by omega, by go_num, HR.out, HB.out⟩
            case measure => simp [intOf]; omega
          · have HB := Lib.hid hb
            have HR := Lib.hid (hsm (by rw [ht, hpa]; simp [tByte, u]))
            clear hst hsm ht hsub hadd hr hb hpa
            go_wp2_with (first | (go_at_call 21; refine (upper_any _ _).mono ?_; rintro e w' ⟨rfl, rfl⟩) | (go_at_call 22; refine (lower_any _ _).mono ?_; rintro e w' ⟨rfl, rfl⟩))
            go_roundw
            case rel => exact ⟨j + 1 + 1, by omega, by go_num, HR.out, HB.out⟩
            case measure => simp [intOf]; omega
        · rw [pu, pl] at hpa
          rcases hc with ⟨u, l, b1, b2⟩ | ⟨u, l, b1, b2⟩ | ⟨u, l⟩
          · have HB := Lib.hid hb
            have HR := Lib.hid (hsm (by rw [ht, hpa]; simp [tByte, l]))
            clear hst hsm ht hsub hadd hr hb hpa
            go_wp2_with (first | (go_at_call 21; refine (upper_any _ _).mono ?_; rintro e w' ⟨rfl, rfl⟩) | (go_at_call 22; refine (lower_any _ _).mono ?_; rintro e w' ⟨rfl, rfl⟩))
            go_roundw
            case rel => exact ⟨j + 1 + 1, by omega, by go_num, HR.out, HB.out⟩
            case measure => simp [intOf]; omega
          · obtain ⟨c1, c2, c3, c4⟩ := hst (s[j + 1] - 32) (by rw [ht, hpa]; simp [tByte, l])
            have hv := hsub l
            have HB := Lib.hid c4
            have HR := Lib.hid c3
            clear hst hsm ht hsub hadd hr hb hpa c3 c4
            go_wp2_with (first | (go_at_call 21; refine (upper_any _ _).mono ?_; rintro e w' ⟨rfl, rfl⟩) | (go_at_call 22; refine (lower_any _ _).mono ?_; rintro e w' ⟨rfl, rfl⟩))
            go_roundw
            case rel => exact ⟨j + 1 + 1, by omega, by go_num, HR.out, HB.out⟩
            case measure => simp [intOf]; omega
          · have HB := Lib.hid hb
            have HR := Lib.hid (hsm (by rw [ht, hpa]; simp [tByte, l]))
            clear hst hsm ht hsub hadd hr hb hpa
            go_wp2_with (first | (go_at_call 21; refine (upper_any _ _).mono ?_; rintro e w' ⟨rfl, rfl⟩) | (go_at_call 22; refine (lower_any _ _).mono ?_; rintro e w' ⟨rfl, rfl⟩))
            go_roundw
            case rel => exact ⟨j + 1 + 1, by omega, by go_num, HR.out, HB.out⟩
            case measure => simp [intOf]; omega
    · obtain rfl : k = s.size := by omega
      have hm : titleTo s.data.toList s.size = titleL s.data.toList := titleTo_end s.data.toList
      have hml : (titleL s.data.toList).length = s.size := by simp [titleL]
      have hback := fun cap => run_convert_bytes_back (P := Tryz.prog) wr 23 9 5 ⟨w.heap.size + 1, 0, none⟩ cap (titleL s.data.toList) Tryz.underlying23 Tryz.underlying5 Tryz.underlying9 (fun j hj => by
        rw [add_off]; have := hr.1 j (by rw [hm]; exact hj); rw [this]; simp only [hm])
      rw [hml] at hback
      generalize htl : titleL s.data.toList = tl at hback ⊢
      have HTL := Lib.hid htl
      clear htl
      have HB := Lib.hid hb
      clear hm hml hr hb hlt hk
      have hb1 : Below (w.heap.size + 1) (w.alloc zeroVal) wr := HB.out
      obtain ⟨q0, q1, q2, q3, q4, q5, hf, hsz⟩ := zeroVal_cells hb1
      have f0 := hf 0
      have f1 := hf 1
      have f2 := hf 2
      have f3 := hf 3
      have f4 := hf 4
      have f5 := hf 5
      clear hf hb1
      go_wp2_with (go_at_call 26; refine (textVal_any _ _).mono ?_; rintro e w1 ⟨rfl, hb2⟩; obtain ⟨hc2, hf2⟩ := bcell hb2)
      refine bodyPost_ret (v := textVal ⟨tl.toArray⟩) (by simp [results, Tryz.results10, go_sem, hc2, hsz, q0, q1, q2, q3, q4, q5]) rfl ⟨by rw [HTL.out], ?_⟩
      have hbb : Below w.heap.size w w1 := ((((Below.refl w.heap.size w).alloc (Nat.le_refl _) zeroVal).trans (HB.out.mono (by omega))).trans (hb2.mono (by omega)))
      exact (((((hbb.setCell (Nat.le_refl _) _).setCell (Nat.le_refl _) _).setCell (Nat.le_refl _) _).setCell (Nat.le_refl _) _).setCell (Nat.le_refl _) _).setCell (Nat.le_refl _) _
end Go.Proofs.YtaogljodhjnfiaaGreat
