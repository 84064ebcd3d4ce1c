/- spec.cases(s, "isupper"). -/
import Derived.Test.YtaogljodhjnfiaaGreatDoorCc
namespace Go.Proofs.YtaogljodhjnfiaaGreatDoor
open Go.RowKit
set_option linter.unusedVariables false

def noLo (l : List UInt8) : Bool := l.all fun c => !loB c.toNat
def anyUp (l : List UInt8) : Bool := l.any fun c => upB c.toNat
theorem noLo_succ (s : ByteArray) (k : Nat) (h : k < s.size) : noLo (s.data.toList.take (k + 1)) = (noLo (s.data.toList.take k) && !loB s[k].toNat) := by
  have hl : k < s.data.toList.length := h
  unfold noLo
  rw [List.take_succ_eq_append_getElem hl, List.all_append]
  simp
  rfl
theorem anyUp_succ (s : ByteArray) (k : Nat) (h : k < s.size) : anyUp (s.data.toList.take (k + 1)) = (anyUp (s.data.toList.take k) || upB s[k].toNat) := by
  have hl : k < s.data.toList.length := h
  unfold anyUp
  rw [List.take_succ_eq_append_getElem hl, List.any_append]
  simp
  rfl

theorem any_round (s : ByteArray) (k : Nat) (h : k < s.size) (W wr : World) (b : Nat) (l : List UInt8) (hl : l.length = s.size) (hr : BRow wr b l) (hb : Below b W wr) (v : UInt8) :
    ∃ u : Value, wr.cell? ⟨b, k, none⟩ = some u ∧ wr.frozen? ⟨b, k, none⟩ = false ∧ BRow (wr.setCell ⟨b, k, none⟩ (.int .u8 (v.toNat : Int))) b (l.set k v) ∧
      Below b W (wr.setCell ⟨b, k, none⟩ (.int .u8 (v.toNat : Int))) := by
  obtain ⟨h1, h2, h3, h4⟩ := brow_step (v := v) hr (k := k) (by omega) hb (Nat.le_refl _) rfl
  exact ⟨_, h1, h2, h3, h4⟩

def isupperName : ByteArray := ⟨#[105, 115, 117, 112, 112, 101, 114]⟩

set_option maxRecDepth 100000 in
set_option maxHeartbeats 8000000 in
theorem cases_isupper (s : ByteArray) (w : World) (hs : s.size ≤ 60) :
    Calls Tryz.prog 10 #[.string s, .string isupperName] w fun e w' => e = .returned (boolVal (noLo s.data.toList && anyUp s.data.toList)) ∧ Below w.heap.size w w' := by
  unfold isupperName
  have hcv := fun (w : World) => run_bytes_of_string (P := Tryz.prog) w 9 23 5 s Tryz.underlying9 Tryz.underlying23 Tryz.underlying5
  have HS : Hid (∀ c m n, s.size ≤ m → BRow ((w.alloc zeroVal).alloc (.cells (bytesRow s c) 5 (m, n))).drew (w.heap.size + 1) s.data.toList) := by
    intro c m n hm
    have := (brow_made (w.alloc zeroVal) s c 5 m n hm).drew
    simpa using this
  go_enter Tryz.func10, Tryz.ntmps10
  go_wp2_with fail
  clear hcv
  generalize hcap : grownCap _ s.size 0 5 = cap
  clear hcap
  go_loopw [6, 7, 8] (fun a o i wr => ∃ k : Nat, k ≤ s.size ∧ a = .bool (decide (0 < s.size) && noLo (s.data.toList.take k)) ∧ o = .bool (anyUp (s.data.toList.take k)) ∧ i = .int .i64 k ∧ (∃ l, l.length = s.size ∧ BRow wr (w.heap.size + 1) l) ∧ Below (w.heap.size + 1) (w.alloc zeroVal) wr) (fun _ _ i _ => s.size - (intOf i).toNat)
  case atStart => exact ⟨0, by omega, by simp [noLo], by simp [anyUp], rfl, ⟨_, rfl, HS.out _ _ _ (bytesRow_size _ _)⟩, ((Below.refl _ _).alloc (by simp) _).drew⟩
  case round =>
    obtain ⟨k, hk, rfl, rfl, rfl, ⟨l, hl, hr⟩, hb⟩ := hrel
    by_cases hlt : k < s.size
    · have hsub := sub32 s[k]
      have hadd := add32 s[k]
      have hc := kinds3 (s[k].toNat : Int)
      have HA := noLo_succ s k hlt
      have HO := anyUp_succ s k hlt
      have hd : decide (0 < s.size) = true := by simp; omega
      rw [hd, Bool.true_and]
      have hany := any_round s k hlt _ wr _ l hl hr hb
      have HD := Lib.hid hd
      clear hd
      cases hA : noLo (s.data.toList.take k) <;> cases hO : anyUp (s.data.toList.take k)
      all_goals
        rw [hA] at HA
        rw [hO] at HO
        have HA := Lib.hid HA
        have HO := Lib.hid HO
        clear hA hO
        by_cases h0 : k = 0
        · have hk0 : ((k : Int) == 0) = true := by simp [h0]
          clear h0
          rcases hc with ⟨u, lo, b1, b2⟩ | ⟨u, lo, b1, b2⟩ | ⟨u, lo⟩
          · have HB := Lib.hid hb
            have HR := Lib.hid hr
            clear hsub hadd hr hb hany
            go_wp2_with (first | (go_at_call 21; refine (upper_any _ _).mono ?_; rintro e w' ⟨rfl, rfl⟩) | (go_at_call 22; refine (lower_any _ _).mono ?_; rintro e w' ⟨rfl, rfl⟩))
            go_roundw
            case rel => exact ⟨k + 1, by omega, by first | (rw [Bool.true_and, HA.out, lo]; rfl) | (rw [HD.out, Bool.true_and, HA.out, lo]; rfl), by rw [HO.out, u]; rfl, by go_num, ⟨_, hl, HR.out⟩, HB.out⟩
            case measure => simp [intOf]; omega
          · obtain ⟨v0, c1, c2, c3, c4⟩ := hany (s[k] - 32)
            have hv := hsub lo
            have HB := Lib.hid c4
            have HR := Lib.hid c3
            clear hsub hadd hr hb hany c3 c4
            go_wp2_with (first | (go_at_call 21; refine (upper_any _ _).mono ?_; rintro e w' ⟨rfl, rfl⟩) | (go_at_call 22; refine (lower_any _ _).mono ?_; rintro e w' ⟨rfl, rfl⟩))
            go_roundw
            case rel => exact ⟨k + 1, by omega, by first | (rw [Bool.true_and, HA.out, lo]; rfl) | (rw [HD.out, Bool.true_and, HA.out, lo]; rfl), by rw [HO.out, u]; rfl, by go_num, ⟨_, by rw [List.length_set]; exact hl, HR.out⟩, HB.out⟩
            case measure => simp [intOf]; omega
          · have HB := Lib.hid hb
            have HR := Lib.hid hr
            clear hsub hadd hr hb hany
            go_wp2_with (first | (go_at_call 21; refine (upper_any _ _).mono ?_; rintro e w' ⟨rfl, rfl⟩) | (go_at_call 22; refine (lower_any _ _).mono ?_; rintro e w' ⟨rfl, rfl⟩))
            go_roundw
            case rel => exact ⟨k + 1, by omega, by first | (rw [Bool.true_and, HA.out, lo]; rfl) | (rw [HD.out, Bool.true_and, HA.out, lo]; rfl), by rw [HO.out, u]; rfl, by go_num, ⟨_, hl, HR.out⟩, HB.out⟩
            case measure => simp [intOf]; omega
        · have hk0 : ((k : Int) == 0) = false := by simp [h0]
          clear h0
          rcases hc with ⟨u, lo, b1, b2⟩ | ⟨u, lo, b1, b2⟩ | ⟨u, lo⟩
          · obtain ⟨v, hdv⟩ : ∃ v, v = s[k] + 32 := ⟨_, rfl⟩
            obtain ⟨v0, c1, c2, c3, c4⟩ := hany v
            have hv := hadd u
            rw [← hdv] at hv
            have HB := Lib.hid c4
            have HR := Lib.hid c3
            clear hsub hadd hr hb hany c3 c4 hdv
            go_wp2_with (first | (go_at_call 21; refine (upper_any _ _).mono ?_; rintro e w' ⟨rfl, rfl⟩) | (go_at_call 22; refine (lower_any _ _).mono ?_; rintro e w' ⟨rfl, rfl⟩))
            go_roundw
            case rel => exact ⟨k + 1, by omega, by first | (rw [Bool.true_and, HA.out, lo]; rfl) | (rw [HD.out, Bool.true_and, HA.out, lo]; rfl), by rw [HO.out, u]; rfl, by go_num, ⟨_, by rw [List.length_set]; exact hl, HR.out⟩, HB.out⟩
            case measure => simp [intOf]; omega
          · have HB := Lib.hid hb
            have HR := Lib.hid hr
            clear hsub hadd hr hb hany
            go_wp2_with (first | (go_at_call 21; refine (upper_any _ _).mono ?_; rintro e w' ⟨rfl, rfl⟩) | (go_at_call 22; refine (lower_any _ _).mono ?_; rintro e w' ⟨rfl, rfl⟩))
            go_roundw
            case rel => exact ⟨k + 1, by omega, by first | (rw [Bool.true_and, HA.out, lo]; rfl) | (rw [HD.out, Bool.true_and, HA.out, lo]; rfl), by rw [HO.out, u]; rfl, by go_num, ⟨_, hl, HR.out⟩, HB.out⟩
            case measure => simp [intOf]; omega
          · have HB := Lib.hid hb
            have HR := Lib.hid hr
            clear hsub hadd hr hb hany
            go_wp2_with (first | (go_at_call 21; refine (upper_any _ _).mono ?_; rintro e w' ⟨rfl, rfl⟩) | (go_at_call 22; refine (lower_any _ _).mono ?_; rintro e w' ⟨rfl, rfl⟩))
            go_roundw
            case rel => exact ⟨k + 1, by omega, by first | (rw [Bool.true_and, HA.out, lo]; rfl) | (rw [HD.out, Bool.true_and, HA.out, lo]; rfl), by rw [HO.out, u]; rfl, by go_num, ⟨_, hl, HR.out⟩, HB.out⟩
            case measure => simp [intOf]; omega
    · obtain rfl : k = s.size := by omega
      have ht : s.data.toList.take s.size = s.data.toList := List.take_of_length_le (Nat.le_refl _)
      rw [ht]
      have he : (decide (0 < s.size) && noLo s.data.toList && anyUp s.data.toList) = (noLo s.data.toList && anyUp s.data.toList) := by
        by_cases hz : 0 < s.size
        · simp [hz]
        · have : s.data.toList = [] := List.eq_nil_of_length_eq_zero (by show s.size = 0; omega)
          rw [this]; simp [anyUp]
      have HE := Lib.hid he
      clear he ht
      have HB := Lib.hid hb
      have hb1 : Below (w.heap.size + 1) (w.alloc zeroVal) wr := hb
      obtain ⟨q0, q1, q2, q3, q4, q5, hf, hsz⟩ := zeroVal_cells hb1
      have f0 := hf 0
      have f1 := hf 1
      have f2 := hf 2
      have f3 := hf 3
      have f4 := hf 4
      have f5 := hf 5
      clear hf hb1 hr hb hlt hk
      cases hA : (decide (0 < s.size) && noLo s.data.toList)
      · have HX : Hid ((noLo s.data.toList && anyUp s.data.toList) = false) := by show _ = _; rw [← HE.out, hA]; rfl
        clear HE hA
        go_wp2_with (go_at_call 25; refine (boolVal_any _ _).mono ?_; rintro e w1 ⟨rfl, hb2⟩; obtain ⟨hc2, hf2⟩ := bcell hb2)
        refine bodyPost_ret (v := boolVal false) (by simp [results, Tryz.results10, go_sem, hc2, hsz, q0, q1, q2, q3, q4, q5]) rfl ⟨by rw [HX.out], ?_⟩
        have hbb : Below w.heap.size w w1 := ((((Below.refl w.heap.size w).alloc (Nat.le_refl _) zeroVal).trans (HB.out.mono (by omega))).trans (hb2.mono (by omega)))
        exact (((((hbb.setCell (Nat.le_refl _) _).setCell (Nat.le_refl _) _).setCell (Nat.le_refl _) _).setCell (Nat.le_refl _) _).setCell (Nat.le_refl _) _).setCell (Nat.le_refl _) _
      · cases hO : anyUp s.data.toList
        · have HX : Hid ((noLo s.data.toList && anyUp s.data.toList) = false) := by show _ = _; rw [← HE.out, hA, hO]; rfl
          clear HE hA hO
          go_wp2_with (go_at_call 25; refine (boolVal_any _ _).mono ?_; rintro e w1 ⟨rfl, hb2⟩; obtain ⟨hc2, hf2⟩ := bcell hb2)
          refine bodyPost_ret (v := boolVal false) (by simp [results, Tryz.results10, go_sem, hc2, hsz, q0, q1, q2, q3, q4, q5]) rfl ⟨by rw [HX.out], ?_⟩
          have hbb : Below w.heap.size w w1 := ((((Below.refl w.heap.size w).alloc (Nat.le_refl _) zeroVal).trans (HB.out.mono (by omega))).trans (hb2.mono (by omega)))
          exact (((((hbb.setCell (Nat.le_refl _) _).setCell (Nat.le_refl _) _).setCell (Nat.le_refl _) _).setCell (Nat.le_refl _) _).setCell (Nat.le_refl _) _).setCell (Nat.le_refl _) _
        · have HX : Hid ((noLo s.data.toList && anyUp s.data.toList) = true) := by show _ = _; rw [← HE.out, hA, hO]; rfl
          clear HE hA hO
          go_wp2_with (go_at_call 25; refine (boolVal_any _ _).mono ?_; rintro e w1 ⟨rfl, hb2⟩; obtain ⟨hc2, hf2⟩ := bcell hb2)
          refine bodyPost_ret (v := boolVal true) (by simp [results, Tryz.results10, go_sem, hc2, hsz, q0, q1, q2, q3, q4, q5]) rfl ⟨by rw [HX.out], ?_⟩
          have hbb : Below w.heap.size w w1 := ((((Below.refl w.heap.size w).alloc (Nat.le_refl _) zeroVal).trans (HB.out.mono (by omega))).trans (hb2.mono (by omega)))
          exact (((((hbb.setCell (Nat.le_refl _) _).setCell (Nat.le_refl _) _).setCell (Nat.le_refl _) _).setCell (Nat.le_refl _) _).setCell (Nat.le_refl _) _).setCell (Nat.le_refl _) _
end Go.Proofs.YtaogljodhjnfiaaGreatDoor
