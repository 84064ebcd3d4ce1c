/- bigall's nat.setBytes. -/
import Derived.Test.YtkkmnglnnfmnaaaGreatDoorNat1
import Derived.Test.YtkkmnglnnfmnaaaGreatDoorBrg
import Derived.Test.YtkkmnglnnfmnaaaGreatDoorBits
namespace Go.Proofs.YtkkmnglnnfmnaaaGreatDoor
open Go.RowKit
set_option linter.unusedVariables false
set_option linter.unusedSimpArgs false

set_option maxRecDepth 100000 in
theorem norm_nil (w : World) : Calls Tryz.prog 48 #[.slice none 0 0] w fun e w' => e = .returned (.slice none 0 0) ∧ w' = w := by
  go_enter Tryz.func48, Tryz.ntmps48
  go_wp2
  refine wp_loop_rounds 1 ?_
  rw [rounds_succ]
  go_wp2
  go_ret
  exact ⟨rfl, rfl⟩

/-- norm of a row that the call owns: the words without the zeros on top. -/
theorem norm_own (b n c : Nat) (zs : List Int) (w : World) (hn : zs.length = n) (hc : n ≤ c) (hm : c ≤ 140737488355328) (h : IRow .u64 w b zs) (hb : b < w.heap.size) (hw : Words zs) :
    Calls Tryz.prog 48 #[.slice (some ⟨b, 0, none⟩) n c] w fun e w' => w' = w ∧ ∃ i ys, e = .returned (.slice (some ⟨b, 0, none⟩) i c) ∧ Sl .u64 b w (.slice (some ⟨b, 0, none⟩) i c) ys ∧ Words ys ∧ Top ys ∧ leN ys = leN zs ∧ i = ys.length ∧ i ≤ n := by
  subst hn
  refine (norm_row b 0 c zs w hc hm (fun j hj => by rw [Nat.zero_add]; exact h.1 j hj)).mono ?_
  rintro e w' ⟨rfl, i, hi, hz, ht, rfl⟩
  have hlen : (zs.take i).length = i := by rw [List.length_take]; omega
  refine ⟨rfl, i, zs.take i, rfl, ⟨_, c, by rw [hlen], by omega, by omega, fun _ => ⟨b, 0, rfl, Nat.le_refl _, hb, fun j hj => ?_⟩⟩, fun x hx => hw x (List.mem_of_mem_take hx), fun hne => ?_, leN_take zs i hz, hlen.symm, hi⟩
  · rw [Nat.zero_add, List.getElem_take]
    exact h.1 j (by omega)
  · rw [List.getLast_eq_getElem, List.getElem_take]
    have hi0 : 0 < i := by
      rcases Nat.eq_zero_or_pos i with h0 | h0
      · subst h0; simp at hne
      · exact h0
    have := ht hi0 (by omega)
    simpa [hlen] using this

set_option maxRecDepth 100000 in
theorem setBytes_nil (A : Option Addr) (c : Nat) (w : World) : Calls Tryz.prog 35 #[.slice none 0 0, .slice A 0 c] w fun e w' => e = .returned (.slice none 0 0) ∧ w' = w := by
  go_enter Tryz.func35, Tryz.ntmps35
  go_wp2_with (go_at_call 46; refine (make_nil0 _).mono ?_; rintro e w1 ⟨rfl, rfl⟩)
  refine wp_loop_rounds 1 ?_
  rw [rounds_succ]
  go_wp2_with (go_at_call 48; refine (norm_nil _).mono ?_; rintro e w1 ⟨rfl, rfl⟩)
  go_ret
  exact ⟨rfl, rfl⟩

/-- Where the first loop of setBytes stands: k words are laid, i bytes are left. -/
theorem sb_step (l zs : List Int) (k i : Nat) (hl : Bytes l) (h : i + 8 + 8 * k = l.length) (hk : k < zs.length) (hz : ∀ j (hj : j < zs.length), k ≤ j → zs[j] = 0)
    (he : beN l = beN (l.take (i + 8)) * 18446744073709551616 ^ k + leN zs) :
    beN l = beN (l.take i) * 18446744073709551616 ^ (k + 1) + leN (zs.set k (beN ((l.drop i).take 8))) ∧ (∀ j (hj : j < (zs.set k (beN ((l.drop i).take 8))).length), k + 1 ≤ j → (zs.set k (beN ((l.drop i).take 8)))[j] = 0) := by
  refine ⟨?_, fun j hj hle => ?_⟩
  · rw [leN_set zs k hk, hz k hk (Nat.le_refl _), he, be_step l (i + 8) (by omega) (by omega), Int.pow_succ, show i + 8 - 8 = i from by omega, Int.add_mul, Int.sub_zero]
    rw [Int.mul_comm (beN ((l.drop i).take 8)), Int.mul_comm (18446744073709551616 ^ k) 18446744073709551616, ← Int.mul_assoc]
    omega
  · rw [List.getElem_set_ne (by omega)]
    exact hz j (by simpa using hj) (by omega)
/-- Eight bytes in a row, one by one. -/
theorem eight (l : List Int) (i : Nat) (h : i + 8 ≤ l.length) : (l.drop i).take 8 = [l[i], l[i + 1], l[i + 2], l[i + 3], l[i + 4], l[i + 5], l[i + 6], l[i + 7]] := by
  rw [List.drop_eq_getElem_cons (show i < l.length by omega), List.drop_eq_getElem_cons (show i + 1 < l.length by omega), List.drop_eq_getElem_cons (show i + 1 + 1 < l.length by omega), List.drop_eq_getElem_cons (show i + 1 + 1 + 1 < l.length by omega), List.drop_eq_getElem_cons (show i + 1 + 1 + 1 + 1 < l.length by omega), List.drop_eq_getElem_cons (show i + 1 + 1 + 1 + 1 + 1 < l.length by omega), List.drop_eq_getElem_cons (show i + 1 + 1 + 1 + 1 + 1 + 1 < l.length by omega), List.drop_eq_getElem_cons (show i + 1 + 1 + 1 + 1 + 1 + 1 + 1 < l.length by omega)]
  simp only [List.take_succ_cons, List.take_zero]

theorem take8_bd (l : List Int) (i : Nat) (hl : Bytes l) (h : i + 8 ≤ l.length) : 0 ≤ beN ((l.drop i).take 8) ∧ beN ((l.drop i).take 8) < 18446744073709551616 := by
  have := beN_bd ((l.drop i).take 8) (fun x hx => hl x (List.mem_of_mem_drop (List.mem_of_mem_take hx)))
  rw [List.length_take, List.length_drop, show min 8 (l.length - i) = 8 from by omega, pow256_8] at this
  exact this
theorem word_at (b o c : Nat) (l : List Int) (w w' : World) (hl : Bytes l) (hc : l.length ≤ c) (hb : b < w.heap.size) (hcell : ∀ j (h : j < l.length), w.cell? ⟨b, o + j, none⟩ = some (.int .u8 l[j])) (hbw : Below w.heap.size w w') (i : Nat) (h : i + 8 ≤ l.length) :
    Calls Tryz.prog 47 #[.slice (some ⟨b, o + i, none⟩) 8 (c - i)] w' fun e w'' => e = .returned (.int .u64 (beN ((l.drop i).take 8))) ∧ Below w'.heap.size w' w'' := by
  have k : ∀ j (h : j < l.length), w'.cell? ⟨b, o + j, none⟩ = some (.int .u8 l[j]) := fun j hj => by rw [hbw.cell (p := ⟨b, o + j, none⟩) hb]; exact hcell j hj
  have m : ∀ j (h : j < l.length), 0 ≤ l[j] ∧ l[j] < 256 := fun j hj => hl _ (List.getElem_mem hj)
  rw [eight l i h]
  exact bigWord_c b (o + i) 8 (c - i) _ _ _ _ _ _ _ _ w' (m _ _) (m _ _) (m _ _) (m _ _) (m _ _) (m _ _) (m _ _) (m _ _) (Nat.le_refl _) (by omega) (Nat.lt_of_lt_of_le hb hbw.size)
    (k i (by omega)) (by rw [Nat.add_assoc]; exact k (i + 1) (by omega)) (by rw [Nat.add_assoc]; exact k (i + 2) (by omega)) (by rw [Nat.add_assoc]; exact k (i + 3) (by omega)) (by rw [Nat.add_assoc]; exact k (i + 4) (by omega)) (by rw [Nat.add_assoc]; exact k (i + 5) (by omega)) (by rw [Nat.add_assoc]; exact k (i + 6) (by omega)) (by rw [Nat.add_assoc]; exact k (i + 7) (by omega))

/-- What the words hold when k of them are laid and i bytes are left. -/
structure Laid (l zs : List Int) (n k i : Nat) : Prop where
  sum : i + 8 * k = l.length
  len : zs.length = n
  words : Words zs
  rest : ∀ j (hj : j < zs.length), k ≤ j → zs[j] = 0
  num : beN l = beN (l.take i) * 18446744073709551616 ^ k + leN zs
theorem laid0 (l : List Int) (n : Nat) : Laid l (List.replicate n 0) n 0 l.length :=
  ⟨by omega, by simp, words_zeros n, fun j hj _ => by simp, by rw [List.take_length, leN_zeros]; simp⟩
theorem laid_step {l zs : List Int} {n k i : Nat} (h : Laid l zs n k (i + 8)) (hl : Bytes l) (hn : n = (l.length + 7) / 8) : Laid l (zs.set k (beN ((l.drop i).take 8))) n (k + 1) i := by
  have hs := h.sum
  have hk : k < zs.length := by rw [h.len]; omega
  obtain ⟨h1, h2⟩ := sb_step l zs k i hl h.sum hk h.rest h.num
  obtain ⟨d0, d1⟩ := take8_bd l i hl (by omega)
  exact ⟨by omega, by rw [List.length_set]; exact h.len, words_set zs k _ h.words d0 d1, h2, h1⟩

theorem or_join64' (a b : Int) (n : Nat) (ha : 0 ≤ a) (h2 : a < 2 ^ n) (hb : 0 ≤ b) (hz : b % 2 ^ n = 0) (h4 : b < 18446744073709551616) (hn : n ≤ 64) : Go.bits .or .u64 a b = a + b := by
  have hp : (2 : Int) ^ n ≤ 18446744073709551616 := by
    have : 2 ^ n ≤ 2 ^ 64 := Nat.pow_le_pow_right (by omega) hn
    have h := Int.ofNat_le.2 this
    simpa using h
  obtain ⟨x, rfl⟩ := Int.eq_ofNat_of_zero_le ha
  obtain ⟨y, rfl⟩ := Int.eq_ofNat_of_zero_le hb
  rw [u64_or_nat x y (by omega) (by omega), Nat.or_comm, nat_join n y x (by exact_mod_cast hz) (by exact_mod_cast h2)]
  push_cast
  omega
theorem pow8 (t : Nat) : (2 : Int) ^ (8 * t) = 256 ^ t := by
  rw [Int.pow_mul]; rfl
theorem drop_bd (l : List Int) (i j : Nat) (hl : Bytes l) : 0 ≤ beN ((l.take i).drop j) ∧ beN ((l.take i).drop j) < 256 ^ ((l.take i).drop j).length :=
  beN_bd _ (fun x hx => hl x (List.mem_of_mem_take (List.mem_of_mem_drop hx)))
theorem sb_or (l : List Int) (i j t : Nat) (hl : Bytes l) (hjt : j + 1 + t = i) (h8 : i < 8) (hi : i ≤ l.length) (hj : j < l.length) :
    Go.bits .or .u64 (beN ((l.take i).drop (j + 1))) (IntKind.u64.wrap (l[j] * 2 ^ (8 * t))) = beN ((l.take i).drop j) := by
  have e : (l.take i).drop j = l[j] :: (l.take i).drop (j + 1) := by
    rw [List.drop_eq_getElem_cons (show j < (l.take i).length by rw [List.length_take]; omega), List.getElem_take]
  have hlen : ((l.take i).drop (j + 1)).length = t := by rw [List.length_drop, List.length_take]; omega
  have hlen2 : ((l.take i).drop j).length = t + 1 := by rw [List.length_drop, List.length_take]; omega
  obtain ⟨d0, d1⟩ := drop_bd l i (j + 1) hl
  obtain ⟨f0, f1⟩ := drop_bd l i j hl
  rw [hlen] at d1
  rw [hlen2] at f1
  have h56 := pow_le_pow (t + 1) 7 (by omega)
  rw [show (256 : Int) ^ 7 = 72057594037927936 from by decide] at h56
  rw [e, beN_cons, hlen] at f0 f1
  rw [e, beN_cons, hlen, pow8]
  have hx := hl _ (List.getElem_mem hj)
  have hp := pow_pos t
  have hxp : 0 ≤ l[j] * 256 ^ t := Int.mul_nonneg hx.1 (by omega)
  have hw : IntKind.u64.wrap (l[j] * 256 ^ t) = l[j] * 256 ^ t := by rw [wrap_u64]; omega
  rw [hw, or_join64' _ _ (8 * t) d0 (by rw [pow8]; exact d1) hxp (by rw [pow8]; exact Int.mul_emod_left _ _) (by omega) (by omega)]
  omega

set_option maxRecDepth 100000 in
set_option maxHeartbeats 1000000 in
theorem setBytes_row (b o c : Nat) (l : List Int) (w : World) (hne : l ≠ []) (hl : Bytes l) (hlen : l.length ≤ 2147483647) (hc : l.length ≤ c) (hb : b < w.heap.size) (hcell : ∀ j (h : j < l.length), w.cell? ⟨b, o + j, none⟩ = some (.int .u8 l[j])) :
    Calls Tryz.prog 35 #[.slice none 0 0, .slice (some ⟨b, o, none⟩) l.length c] w fun e w' => ∃ v zs, e = .returned v ∧ Sl .u64 w.heap.size w' v zs ∧ Words zs ∧ Top zs ∧ leN zs = beN l ∧ Below w.heap.size w w' := by
  obtain ⟨n, hn⟩ : ∃ n, n = (l.length + 7) / 8 := ⟨_, rfl⟩
  have hpos : 0 < l.length := List.length_pos_iff.2 hne
  have hn0 : 0 < n := by omega
  have hn1 : n ≤ 4398046511104 := by omega
  have hnq : Int.tdiv ((l.length : Int) + 8 - 1) 8 = (n : Int) := by rw [Int.tdiv_eq_ediv_of_nonneg (by omega)]; omega
  have HW := Lib.hid (fun w' => word_at b o c l w w' hl hc hb hcell)
  have HC := Lib.hid hcell
  clear hcell
  have HN := Lib.hid hn
  have HL := Lib.hid hl
  clear hl hn
  go_enter Tryz.func35, Tryz.ntmps35
  go_wp2_with (go_at_call 46; refine (make_nil n _ hn0 hn1).mono ?_; rintro e w1 ⟨c1, rfl, hc1, hc2, hr1, hb1, hsz1⟩; have HR1 := Lib.hid hr1; have HB1 := Lib.hid hb1; clear hr1 hb1)
  go_loopw [5, 6] (fun a d wr => ∃ i k zs, a = .int .i64 (i : Nat) ∧ d = .int .i64 (k : Nat) ∧ i ≤ l.length ∧ Hid (Laid l zs n k i) ∧ Hid (IRow .u64 wr w.heap.size zs) ∧ Hid (Below w.heap.size w wr)) (fun a _ _ => (intOf a).toNat)
  case atStart => exact ⟨l.length, 0, _, rfl, rfl, Nat.le_refl _, laid0 l n, HR1.out, HB1.out⟩
  case round =>
    obtain ⟨i, k, zs, rfl, rfl, hi, HD, HR, HB⟩ := hrel
    by_cases h8 : 8 ≤ i
    · obtain ⟨i, rfl⟩ : ∃ p, i = p + 8 := ⟨i - 8, by omega⟩
      have hk : k < n := by have := HD.out.sum; have := HN.out; omega
      have HD2 := Lib.hid (laid_step HD.out HL.out HN.out)
      have HCW := Lib.hid (HW.out _ HB.out i (by omega))
      have hlz : k < zs.length := by rw [HD.out.len]; exact hk
      have hlt : w.heap.size < wr.heap.size := lt_of_cell (HR.out.1 k hlz)
      obtain ⟨x, hx⟩ : ∃ x, beN ((l.drop i).take 8) = x := ⟨_, rfl⟩
      rw [hx] at HD2 HCW
      clear hx
      go_wp2_with (go_at_call 47; refine HCW.out.mono ?_; rintro e w2 ⟨rfl, hb2⟩; obtain ⟨q1, q2, q3, q4⟩ := irow_step (v := x) (HR.out.below hb2 hlt) hlz (HB.out.trans (hb2.mono HB.out.size)) (Nat.le_refl _); have Q3 := Lib.hid q3; have Q4 := Lib.hid q4; clear q3 q4 hb2)
      go_roundw
      case rel => exact ⟨i, k + 1, _, by go_num, by go_num, by omega, HD2, Q3, Q4⟩
      case measure => simp [intOf]; omega
    · have hi8 : i < 8 := by omega
      clear h8
      by_cases h0 : i = 0
      · subst h0
        have HE : Hid (Words zs ∧ leN zs = beN l) := by
          refine ⟨HD.out.words, ?_⟩
          have := HD.out.num
          simpa [beN] using this.symm
        have hzl := HD.out.len
        have hlt : w.heap.size < wr.heap.size := lt_of_cell (HR.out.1 0 (by omega))
        have HNR := Lib.hid (norm_own w.heap.size n c1 zs wr hzl (by omega) (by omega) HR.out hlt HE.out.1)
        go_wp2_with (go_at_call 48; refine HNR.out.mono ?_; rintro e w2 ⟨rfl, i, ys, rfl, y1, y2, y3, y4, y5, y6⟩)
        go_ret
        subst y5
        exact ⟨.slice (some ⟨w.heap.size, 0, none⟩) ys.length c1, ys, rfl, y1, y2, y3, y4.trans HE.out.2, HB.out⟩
      · have hi0 : 0 < i := by omega
        clear h0
        go_wp2
        go_loopw [5, 7, 8] (fun a d s wq => ∃ j t : Nat, j + t = i ∧ a = .int .i64 (j : Nat) ∧ d = .int .u64 (beN ((l.take i).drop j)) ∧ s = .int .u64 (8 * t : Nat) ∧ wq = wr) (fun a _ _ _ => (intOf a).toNat)
        case atStart => exact ⟨i, 0, by omega, rfl, by simp [beN], rfl, rfl⟩
        case round =>
          obtain ⟨j, t, hjt, rfl, rfl, rfl, rfl⟩ := hrel
          rcases j with _ | j
          · have hk : k < zs.length := by have := HD.out.sum; have := HN.out; rw [HD.out.len]; omega
            have hkn : n - 1 = k := by have := HD.out.sum; have := HN.out; omega
            have hkn2 : (n : Int) - 1 = k := by omega
            obtain ⟨d, hd⟩ : ∃ d, beN ((l.take i).drop 0) = d := ⟨_, rfl⟩
            have hdb := drop_bd l i 0 HL.out
            rw [hd] at hdb
            have h56 := pow_le_pow (((l.take i).drop 0)).length 7 (by simp; omega)
            rw [show (256 : Int) ^ 7 = 72057594037927936 from by decide] at h56
            have HE : Hid (Words (zs.set k d) ∧ leN (zs.set k d) = beN l) := by
              refine ⟨words_set zs k d HD.out.words hdb.1 (by omega), ?_⟩
              rw [leN_set zs k hk, HD.out.rest k hk (Nat.le_refl _), HD.out.num, ← hd, List.drop_zero, Int.sub_zero, Int.mul_comm]
              omega
            have hzl := HD.out.len
            have hlt : w.heap.size < wr.heap.size := lt_of_cell (HR.out.1 k hk)
            obtain ⟨q1, q2, q3, q4⟩ := irow_step (v := d) HR.out hk HB.out (Nat.le_refl _)
            have HNR := Lib.hid (norm_own w.heap.size n c1 (zs.set k d) (wr.setCell ⟨w.heap.size, k, none⟩ (.int .u64 d)) (by simpa using hzl) (by omega) (by omega) q3 (by simpa [World.setCell] using hlt) HE.out.1)
            have Q4 := Lib.hid q4
            clear q3 q4 hdb h56
            rw [hd]
            go_wp2_with (go_at_call 48; refine HNR.out.mono ?_; rintro e w2 ⟨rfl, i, ys, rfl, y1, y2, y3, y4, y5, y6⟩)
            go_ret
            subst y5
            exact ⟨.slice (some ⟨w.heap.size, 0, none⟩) ys.length c1, ys, rfl, y1, y2, y3, y4.trans HE.out.2, Q4.out⟩
          · have hj : j < l.length := by omega
            have hcj := HC.out j hj
            rw [← HB.out.cell (p := ⟨b, o + j, none⟩) hb] at hcj
            have hx01 := HL.out _ (List.getElem_mem hj)
            obtain ⟨x, hx⟩ : ∃ x, l[j] = x := ⟨_, rfl⟩
            rw [hx] at hcj hx01
            have hor := sb_or l i j t HL.out (by omega) hi8 hi hj
            rw [hx] at hor
            generalize beN ((l.take i).drop (j + 1)) = d at hor ⊢
            go_wp2
            exact ⟨⟨j, t + 1, by omega, rfl, rfl, by go_num, trivial⟩, by simp [intOf]⟩
/-- setBytes of any row of bytes, onto nil. -/
theorem setBytes_c (B : Nat) (v : Value) (l : List Int) (w : World) (h : Sl .u8 B w v l) (hl : Bytes l) (hlen : l.length ≤ 2147483647) :
    Calls Tryz.prog 35 #[.slice none 0 0, v] w fun e w' => ∃ v zs, e = .returned v ∧ Sl .u64 w.heap.size w' v zs ∧ Words zs ∧ Top zs ∧ leN zs = beN l ∧ Below w.heap.size w w' := by
  obtain ⟨A, c, rfl, h1, h2, h3⟩ := h
  by_cases hne : l = []
  · subst hne
    refine (setBytes_nil A c w).mono ?_
    rintro e w' ⟨rfl, rfl⟩
    exact ⟨_, [], rfl, Sl.nil, fun x hx => (by cases hx), fun h => absurd rfl h, rfl, Below.refl _ _⟩
  · obtain ⟨b, o, rfl, hB, hlt, hc⟩ := h3 hne
    exact setBytes_row b o c l w hne hl hlen h1 hlt hc
end Go.Proofs.YtkkmnglnnfmnaaaGreatDoor
