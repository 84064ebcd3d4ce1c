/- The walks of spec.Power and spec.Int's Lsh. -/
import Derived.Test.YtkplnbjgkhmbcaaGreatDoorM04b
import Derived.StillTailTactics
namespace Go.Proofs.YtkplnbjgkhmbcaaGreatDoor
open Go.RowKit Go.Proofs.YtkplnbjgkhmbcaaGreatDoorW.PrintWords Go.Proofs.YtkplnbjgkhmbcaaGreatDoorW.PrintLast Go.Proofs.YtkplnbjgkhmbcaaGreatDoorW.PrintMore Go.Proofs.YtkplnbjgkhmbcaaGreatDoor.PFnCompare Go.Proofs.YtkplnbjgkhmbcaaGreatDoor.PCmp Go.Proofs.YtkplnbjgkhmbcaaGreatDoor.PbytesOf Go.Proofs.YtkplnbjgkhmbcaaGreatDoor.Pcmp
set_option linter.unusedVariables false
set_option linter.unusedSimpArgs false

theorem good_pow (n : Nat) (h : n ≤ 100000) : Good (false && decide (0 < (cutL (powB n)).length)) (cutL (powB n)) :=
  good_of false (powB n) (powB_bytes n) (by unfold powB; simp; omega)
theorem shl_u8 (r : Nat) (h : r < 8) : (2 : Int) ^ r % 256 = 2 ^ r := by
  match r, h with
  | 0, _ | 1, _ | 2, _ | 3, _ | 4, _ | 5, _ | 6, _ | 7, _ => decide

set_option maxRecDepth 100000 in
set_option maxHeartbeats 2000000 in
theorem power_c (n : Nat) (w : World) (hn : n ≤ 100000) :
    Calls Tryz.prog 177 #[.int .i64 n] w fun e w' => ∃ A c l, e = .returned (.agg #[.bool false, .slice A l.length c]) ∧ Sl .u8 w.heap.size w' (.slice A l.length c) l ∧ Good false l ∧ val false l = 2 ^ n ∧ l.length ≤ n / 8 + 1 ∧ Below w.heap.size w w' := by
  obtain ⟨O1, hm1, hr1⟩ := make_row .u8 22 5 1 Tryz.underlying22 byteInfo (n / 8 + 1) (by omega) (by omega)
  have HR1 := Lib.hid hr1
  clear hr1
  obtain ⟨m, hm⟩ : ∃ m, n / 8 = m := ⟨_, rfl⟩
  have hP : powB n = (2 : Int) ^ (n % 8) :: List.replicate m 0 := by unfold powB; rw [hm]
  have HG := Lib.hid (good_pow n hn)
  have HV := Lib.hid (val_of false (powB n) (powB_bytes n))
  have HPn := Lib.hid (powB_num n)
  have hPl : (powB n).length = m + 1 := by rw [hP]; simp
  have hcl := cutL_length (powB n)
  obtain ⟨r, hr⟩ : ∃ r, n % 8 = r := ⟨_, rfl⟩
  rw [hr] at hP
  have hr8 : r < 8 := by omega
  have hmi : (n : Int) / 8 = m := by omega
  have hri : (n : Int) % 8 = r := by omega
  rw [hm] at HR1 hm1
  push_cast at hm1
  have HP := Lib.hid hP
  have HPL := Lib.hid hPl
  have H0 := Lib.hid (And.intro hm hcl)
  clear hP hPl hr hm hcl
  have hm0 : (0 : Int) < (m : Int) + 1 := by omega
  have HRW : Hid (∀ w1 : World, IRow .u8 w1 w1.heap.size [] → True) := fun _ _ => trivial
  clear HRW
  have key : ∀ (W : World), W = (w.alloc (.cells #[.bool false, .slice none 0 0] 54)).alloc O1 → ∃ W2 : World, W2 = W.setCell ⟨w.heap.size + 1, 0, none⟩ (.int .u8 (2 ^ r)) ∧ IRow .u8 W2 (w.heap.size + 1) (powB n) ∧ W.cell? ⟨w.heap.size + 1, 0, none⟩ = some (.int .u8 0) ∧ W.frozen? ⟨w.heap.size + 1, 0, none⟩ = false ∧ Below w.heap.size w W2 ∧ W2.heap[w.heap.size]? = some (.cells #[.bool false, .slice none 0 0] 54 (0, 0)) ∧ W2.heap.size = w.heap.size + 2 := by
    rintro W rfl
    have hr := HR1.out (w.alloc (.cells #[.bool false, .slice none 0 0] 54))
    have e : (w.alloc (.cells #[.bool false, .slice none 0 0] 54)).heap.size = w.heap.size + 1 := by simp
    rw [e, List.replicate_succ] at hr
    refine ⟨_, rfl, ?_, ?_, ?_, ?_, ?_, ?_⟩
    · rw [HP.out]
      exact hr.set 0 (by simp) _
    · exact hr.1 0 (by simp)
    · exact hr.2 0 (by simp)
    · exact (((Below.refl _ _).alloc (Nat.le_refl _) _).alloc (by simp) _).setCell (by show w.heap.size ≤ w.heap.size + 1; omega) _
    · exact blk_far (blk_alloc (blk_new _ _) _) (by show w.heap.size ≠ w.heap.size + 1; omega) _
    · rw [size_set]; simp
  obtain ⟨W2, hW2, hrow, hc0, hf0, hlow, hblk, hsz⟩ := key _ rfl
  have HK := Lib.hid (And.intro hrow (And.intro hlow (And.intro hblk hsz)))
  clear key hrow hlow hblk hsz HR1
  have HOf := Lib.hid (fun (l0 : List Int) (v : Value) (h : Sl .u8 0 W2 v l0) (hl : l0.length < 140737488355328) => of_c false 0 v l0 W2 h hl)
  have hcases : r = 0 ∨ r = 1 ∨ r = 2 ∨ r = 3 ∨ r = 4 ∨ r = 5 ∨ r = 6 ∨ r = 7 := by omega
  rcases hcases with rfl | rfl | rfl | rfl | rfl | rfl | rfl | rfl
  all_goals
    simp only [Int.reducePow, Int.reducePow] at hW2
    go_enter Tryz.func177, Tryz.ntmps177
    go_wp2_with (go_at_call 24; rw [← hW2]; refine (HOf.out (powB n) _ ((HK.out.1.sl' (c := m + 1) (by rw [HK.out.2.2.2]; omega) (by rw [HPL.out]; omega) (by rw [HPL.out]; omega)).mono (Nat.zero_le _) |> fun h => by rw [HPL.out] at h; exact h) (by rw [HPL.out]; omega)).mono ?_; rintro e w2 ⟨v2, rfl, ⟨s2, rfl, hs2⟩, hb2⟩; obtain ⟨A3, c3, rfl, _⟩ := hs2.c; have HS2 := Lib.hid hs2; have HB2 := Lib.hid hb2; have k3 := blk_keep' HK.out.2.2.1 hb2; have q0 := (blk_cell k3 0).trans rfl; have q1 := (blk_cell k3 1).trans rfl; have f0 := blk_frozen k3 0; have f1 := blk_frozen k3 1; clear hs2 hb2 k3)
    have hlow := HK.out.2.1.size
    refine bodyPost_ret (v := .agg #[.bool false, .slice A3 (cutL (powB n)).length c3]) (by simp [results, Tryz.results177, go_sem, q0, q1]) rfl ⟨_, _, cutL (powB n), rfl, ?_, HG.out, HV.out.trans (by unfold val; simp [HPn.out]), by have := H0.out; have := HPL.out; omega, ?_⟩
    · exact ((HS2.out.setCell (p := ⟨w.heap.size, 0, none⟩) _ (by show w.heap.size < W2.heap.size; rw [HK.out.2.2.2]; omega)).setCell (p := ⟨w.heap.size, 1, none⟩) _ (by show w.heap.size < W2.heap.size; rw [HK.out.2.2.2]; omega)).mono hlow
    · exact ((HK.out.2.1.trans (HB2.out.mono hlow)).setCell (Nat.le_refl _) _).setCell (Nat.le_refl _) _

theorem zero_c (B : Nat) (n : Bool) (v : Value) (l : List Int) (w : World) (h : SInt B w v n l) :
    Calls Tryz.prog 113 #[v] w fun e w' => e = .returned (.bool ((l.length : Int) == 0)) ∧ Below w.heap.size w w' := by
  obtain ⟨s, rfl, hs⟩ := h
  obtain ⟨A, c, rfl, l1, k1⟩ := hs.c
  exact spec_Int_Zero.calls n A c l _ w k1 l1 rfl

set_option maxRecDepth 100000 in
set_option maxHeartbeats 2000000 in
theorem lsh_c (B : Nat) (n : Bool) (v : Value) (l : List Int) (k : Nat) (w : World) (h : SInt B w v n l) (hg : Good n l) (hl : l.length ≤ 1000) (hk : k ≤ 100000) :
    Calls Tryz.prog 143 #[v, .int .i64 k] w fun e w' => ∃ A c n' l', e = .returned (.agg #[.bool n', .slice A l'.length c]) ∧ Sl .u8 w.heap.size w' (.slice A l'.length c) l' ∧ Good n' l' ∧ val n' l' = val n l * 2 ^ k ∧ l'.length ≤ l.length + k / 8 + 1 ∧ Below w.heap.size w w' := by
  have H := Lib.hid h
  obtain ⟨s, rfl, hs⟩ := h
  obtain ⟨A, c, rfl, _⟩ := hs.c
  clear hs
  obtain ⟨W, hW⟩ : ∃ W, W = (w.alloc (.cells #[.bool n, .slice A l.length c] 54)).alloc (.cells #[.bool false, .slice none 0 0] 54) := ⟨_, rfl⟩
  have hb1 : W.heap[w.heap.size]? = some (.cells #[.bool n, .slice A l.length c] 54 (0, 0)) := by rw [hW]; exact blk_alloc (blk_new _ _) _
  have hb2 : W.heap[w.heap.size + 1]? = some (.cells #[.bool false, .slice none 0 0] 54 (0, 0)) := by rw [hW]; simpa using blk_new (w.alloc _) _
  have hlow : Below w.heap.size w W := by rw [hW]; exact ((Below.refl _ _).alloc (Nat.le_refl _) _).alloc (by simp) _
  have hsz : W.heap.size = w.heap.size + 2 := by rw [hW]; simp
  have HK := Lib.hid (And.intro hb1 (And.intro hb2 (And.intro hlow hsz)))
  obtain ⟨c0, c1, _, _⟩ := cells2 hb1
  obtain ⟨q0, q1, f0, f1⟩ := cells2 hb2
  clear hb1 hb2 hlow hsz
  have HZ := Lib.hid (zero_c B n _ l W (by obtain ⟨s, e, hs⟩ := H.out; exact ⟨s, e, hs.below HK.out.2.2.1⟩))
  have HG := Lib.hid hg
  clear hg
  by_cases hz : l = []
  · have hlb : ((l.length : Int) == 0) = true := by rw [hz]; rfl
    rw [hlb] at HZ
    clear hlb
    have HE := Lib.hid hz
    clear hz
    go_enter Tryz.func143, Tryz.ntmps143
    go_wp2_with (go_at_call 113; rw [← hW]; refine HZ.out.mono ?_; rintro e w1 ⟨rfl, hb⟩; have HB := Lib.hid hb; have z0 := (hb.cell (p := ⟨w.heap.size + 1, 0, none⟩) (by show w.heap.size + 1 < _; rw [HK.out.2.2.2]; omega)).trans q0; have z1 := (hb.cell (p := ⟨w.heap.size + 1, 1, none⟩) (by show w.heap.size + 1 < _; rw [HK.out.2.2.2]; omega)).trans q1; have g0 := (hb.frozen (p := ⟨w.heap.size + 1, 0, none⟩) (by show w.heap.size + 1 < _; rw [HK.out.2.2.2]; omega)).trans f0; have g1 := (hb.frozen (p := ⟨w.heap.size + 1, 1, none⟩) (by show w.heap.size + 1 < _; rw [HK.out.2.2.2]; omega)).trans f1; clear hb)
    have hn := HG.out.zero HE.out
    refine bodyPost_ret (v := .agg #[.bool false, .slice none 0 0]) (by simp [results, Tryz.results143, go_sem, z0, z1]) rfl ⟨none, 0, false, [], rfl, Sl.nil, ⟨fun x hx => (by cases hx), fun x r h => (by cases h), fun _ => rfl, by simp⟩, by rw [HE.out, hn]; simp [val, beN], by simp, ?_⟩
    exact ((HK.out.2.2.1.trans (HB.out.mono HK.out.2.2.1.size)).setCell (p := ⟨w.heap.size + 1, 0, none⟩) (by show w.heap.size ≤ w.heap.size + 1; omega) _).setCell (p := ⟨w.heap.size + 1, 1, none⟩) (by show w.heap.size ≤ w.heap.size + 1; omega) _
  · have hlb : ((l.length : Int) == 0) = false := by have := List.length_pos_iff.2 hz; simp; omega
    rw [hlb] at HZ
    clear hlb hz
    go_enter Tryz.func143, Tryz.ntmps143
    go_wp2_with (go_at_call 113; rw [← hW]; refine HZ.out.mono ?_; rintro e w1 ⟨rfl, hb⟩; have HB := Lib.hid hb; have y0 := (hb.cell (p := ⟨w.heap.size, 0, none⟩) (by show w.heap.size < _; rw [HK.out.2.2.2]; omega)).trans c0; have y1 := (hb.cell (p := ⟨w.heap.size, 1, none⟩) (by show w.heap.size < _; rw [HK.out.2.2.2]; omega)).trans c1; have hk2 := blk_keep' HK.out.2.1 hb; have HK2 := Lib.hid hk2; clear hb hk2)
    clear c0 c1 q0 q1 f0 f1 hW HZ
    have HL : Hid (Below w.heap.size w w1) := HK.out.2.2.1.trans (HB.out.mono HK.out.2.2.1.size)
    have hz1 : w.heap.size + 1 < w1.heap.size := blk_lt HK2.out
    go_region_with (first
      | (go_at_call 177; refine (power_c k _ hk).mono ?_; rintro e w2 ⟨A2, c2, l2, rfl, hs2, hg2, hv2, hl2, hb2⟩; have y0 := (hb2.cell (p := ⟨w.heap.size, 0, none⟩) (by show w.heap.size < _; simp; omega)).trans (by first | exact y0 | simpa using y0); have y1 := (hb2.cell (p := ⟨w.heap.size, 1, none⟩) (by show w.heap.size < _; simp; omega)).trans (by first | exact y1 | simpa using y1); have HS2 := Lib.hid hs2; have HG2 := Lib.hid (And.intro hg2 (And.intro hv2 hl2)); (have HL2 : Hid (Below w.heap.size w w2) := by first | exact HL.out.trans (hb2.mono HL.out.size) | exact HL.out.drew.trans (hb2.mono HL.out.size)); (have HK3 : Hid (w2.heap[w.heap.size + 1]? = some (.cells #[.bool false, .slice none 0 0] 54 (0, 0))) := by first | exact blk_keep' HK2.out hb2 | exact blk_keep' (blk_drew HK2.out) hb2); clear hs2 hg2 hv2 hl2 hb2)
      | (go_at_call 176; refine (mul_c B _ n false _ _ l l2 _ (by obtain ⟨s, e, hs⟩ := H.out; first | exact ⟨s, e, hs.below HL2.out⟩ | exact ⟨s, e, hs.below HL2.out.drew⟩) (by first | exact ⟨_, rfl, HS2.out⟩ | exact ⟨_, rfl, HS2.out.drew⟩) HG.out.bytes HG2.out.1.bytes (by omega) (by have := HG2.out.2.2; omega)).mono ?_; rintro e w3 ⟨v3, n3, l3, rfl, ⟨s3, rfl, hs3⟩, hg3, hv3, hl3, hb3⟩; obtain ⟨A3, c3, rfl, _⟩ := hs3.c; have HS3 := Lib.hid hs3; have HG3 := Lib.hid (And.intro hg3 (And.intro hv3 hl3)); (have HL3 : Hid (Below w.heap.size w w3) := by first | exact HL2.out.trans (hb3.mono HL2.out.size) | exact HL2.out.drew.trans (hb3.mono HL2.out.size)); (have hk4 : w3.heap[w.heap.size + 1]? = some (.cells #[.bool false, .slice none 0 0] 54 (0, 0)) := by first | exact blk_keep' HK3.out hb3 | exact blk_keep' (blk_drew HK3.out) hb3); obtain ⟨q0, q1, f0, f1⟩ := cells2 hk4; have hz2 := blk_lt HK3.out; clear hs3 hg3 hv3 hl3 hb3 hk4))
    all_goals go_wp2
    all_goals refine bodyPost_ret (v := .agg #[.bool n3, .slice A3 l3.length c3]) (by simp [results, Tryz.results143, go_sem, q0, q1]) rfl ⟨_, _, n3, l3, rfl, ?_, HG3.out.1, (by rw [HG3.out.2.1, HG2.out.2.1]), (by have h1 := HG3.out.2.2; have h2 := HG2.out.2.2; omega), ?_⟩
    all_goals first
      | exact ((HS3.out.setCell (p := ⟨w.heap.size + 1, 0, none⟩) _ (by first | exact hz2 | (simp; exact hz2))).setCell (p := ⟨w.heap.size + 1, 1, none⟩) _ (by first | exact hz2 | (simp; exact hz2))).mono (by first | exact HL2.out.size | (simp; exact HL2.out.size))
      | exact (HL3.out.setCell (p := ⟨w.heap.size + 1, 0, none⟩) (by show w.heap.size ≤ w.heap.size + 1; omega) _).setCell (p := ⟨w.heap.size + 1, 1, none⟩) (by show w.heap.size ≤ w.heap.size + 1; omega) _
end Go.Proofs.YtkplnbjgkhmbcaaGreatDoor
