/- impl.whole; impl.scalar and impl.value of an integer; starlark.AsInt32; impl.AsInt32. -/
import Derived.Test.YtkkmnglnnfmnaaaGreatDoorInt4
import Derived.Test.YtkkmnglnnfmnaaaGreatDoorSpecX
import Derived.Stop.IfaceNil
import Derived.BigQuiet
namespace Go.Proofs.YtkkmnglnnfmnaaaGreatDoor
open Go.RowKit Go.Proofs.YtkkmnglnnfmnaaaGreatDoorW.PrintWords Go.Proofs.YtkkmnglnnfmnaaaGreatDoorW.PrintLast Go.Proofs.YtkkmnglnnfmnaaaGreatDoorW.PrintMore
set_option linter.unusedVariables false
set_option linter.unusedSimpArgs false

theorem pow8_words (n : Nat) : (256 : Int) ^ n ≤ 18446744073709551616 ^ n := by
  have h : (18446744073709551616 : Int) = 256 ^ 8 := by decide
  rw [h, ← Int.pow_mul]
  exact pow_le_pow _ _ (by omega)
theorem words_le (l zs : List Int) (hl : Bytes l) (hw : Words zs) (ht : Top zs) (h : leN zs = beN l) : zs.length ≤ l.length := by
  rcases Nat.lt_or_ge l.length zs.length with hlt | hge
  · have hne : zs ≠ [] := by rintro rfl; simp at hlt
    have h1 := leN_top zs hw ht hne
    have h2 := (beN_bd l hl).2
    have h3 := pow8_words l.length
    have h4 : (18446744073709551616 : Int) ^ l.length ≤ 18446744073709551616 ^ (zs.length - 1) := by
      obtain ⟨c, hc⟩ : ∃ c, zs.length - 1 = l.length + c := ⟨zs.length - 1 - l.length, by omega⟩
      rw [hc, Int.pow_add]
      have := wpos l.length
      have h5 := wpos c
      have : (18446744073709551616 : Int) ^ l.length * 1 ≤ 18446744073709551616 ^ l.length * 18446744073709551616 ^ c := Int.mul_le_mul_of_nonneg_left (by omega) (by omega)
      omega
    omega
  · exact hge

theorem two_cells {w : World} {g : Nat} {a b : Value} {t : TypeId} (h : w.heap[g]? = some (.cells #[a, b] t (0, 0))) :
    w.cell? ⟨g, 0, none⟩ = some a ∧ w.cell? ⟨g, 1, none⟩ = some b ∧ w.frozen? ⟨g, 0, none⟩ = false ∧ w.frozen? ⟨g, 1, none⟩ = false :=
  ⟨_root_.Go.Proofs.YtkkmnglnnfmnaaaGreatDoor.blk_cell h 0 _ rfl, _root_.Go.Proofs.YtkkmnglnnfmnaaaGreatDoor.blk_cell h 1 _ rfl, blk_free h 0, blk_free h 1⟩
theorem bval_neg (zs l : List Int) (h : leN zs = beN l) : bval (decide (0 < zs.length) && true) zs = val true l := by
  unfold bval val
  by_cases hz : 0 < zs.length
  · simp [hz, h]
  · have : zs = [] := List.eq_nil_of_length_eq_zero (by omega)
    subst this
    rw [← h]; simp [leN]
theorem bval_pos (zs l : List Int) (h : leN zs = beN l) : bval false zs = val false l := by
  unfold bval val; simp [h]

set_option maxRecDepth 100000 in
theorem iwhole_c (B : Nat) (k bits : Int) (n : Bool) (txt : ByteArray) (v2 : Value) (A5 : Option Addr) (n5 c5 : Nat) (l : List Int) (w : World) (h : Sl .u8 B w v2 l) (hl : Bytes l) (hlen : l.length ≤ 2147483647) :
    Calls Tryz.prog 24 #[.agg #[.int .i64 k, .bool n, v2, .int .u64 bits, .string txt, .slice A5 n5 c5]] w fun e w' => ∃ u, e = .returned u ∧ SIv w.heap.size w' u (val n l) ∧ Below w.heap.size w w' := by
  have HS := Lib.hid (fun w' g (hb : Below w.heap.size w w') hk => intSetBytes_c g B false v2 l w' (h.below hb) hl hlen hk)
  have HW := Lib.hid (fun zs hw ht he => words_le l zs hl hw ht he)
  obtain ⟨A2, c2, rfl, _⟩ := h.c
  clear h hl
  have HB0 : Hid (Below w.heap.size w (((w.alloc (.cells #[.int .i64 k, .bool n, .slice A2 l.length c2, .int .u64 bits, .string txt, .slice A5 n5 c5] 28)).alloc (.cells #[.int .i64 0, .pointer none] 69)).alloc (.cells #[.bool false, .slice none 0 0] 110))) :=
    (((Below.refl _ _).alloc (Nat.le_refl _) _).alloc (by simp) _).alloc (by simp; omega) _
  have HK1 : Hid ((((w.alloc (.cells #[.int .i64 k, .bool n, .slice A2 l.length c2, .int .u64 bits, .string txt, .slice A5 n5 c5] 28)).alloc (.cells #[.int .i64 0, .pointer none] 69)).alloc (.cells #[.bool false, .slice none 0 0] 110)).heap[w.heap.size + 1]? = some (.cells #[.int .i64 0, .pointer none] 69 (0, 0))) :=
    blk_alloc (by simpa using blk_new (w.alloc _) _) _
  cases n
  all_goals
    go_enter Tryz.func24, Tryz.ntmps24
    go_wp2_with (first | (go_at_call 30; refine (HS.out _ (w.heap.size + 1 + 1) HB0.out (by simpa using blk_new ((w.alloc _).alloc _) _)).mono ?_; rintro e w1 ⟨rfl, ⟨u1, zs, hi1, hz1⟩, hb1⟩; have HI := Lib.hid hi1; have HZ := Lib.hid (And.intro hz1 (HW.out zs hi1.words hi1.top hz1)); have HB := Lib.hid (HB0.out.trans (hb1.mono (by omega))); have K1 := Lib.hid (blk_keep HK1.out hb1 (by omega)); have k1 := (hb1.cell (p := ⟨w.heap.size, 1, none⟩) (by show w.heap.size < _; omega)).trans (show World.cell? _ _ = some _ from by go_simp; rfl); clear hi1 hz1 hb1) | (go_at_call 31; refine (intNeg_c _ _ _ _ _ HI.out).mono ?_; rintro e w2 ⟨rfl, hi2, hb2⟩; replace HI := Lib.hid hi2; replace HB := Lib.hid (HB.out.trans (hb2.mono (by omega))); replace K1 := Lib.hid (blk_keep K1.out hb2 (by omega)); clear hi2 hb2) | (go_at_call 32; refine (makeBigInt_c _ _ _ _ _ HI.out (by have := HZ.out.2; omega)).mono ?_; rintro e w3 ⟨u, rfl, hu, hb3⟩; obtain ⟨y, p, rfl⟩ := hu.shape; obtain ⟨q0, q1, f0, f1⟩ := two_cells (blk_keep K1.out hb3 (lt_blk K1.out)); have hl3 := HI.out.lt; have HU := Lib.hid (hu.mono (by omega : w.heap.size + 2 ≤ _)); replace HB := Lib.hid (HB.out.trans (hb3.mono (by omega))); clear hu hb3))
    refine bodyPost_ret (v := .agg #[.int .i64 y, .pointer p]) (by simp [results, Tryz.results24, go_sem, q0, q1]) rfl ⟨_, rfl, ?_, (HB.out.setCell (p := ⟨w.heap.size + 1, 0, none⟩) (by show w.heap.size ≤ w.heap.size + 1; omega) _).setCell (p := ⟨w.heap.size + 1, 1, none⟩) (by show w.heap.size ≤ w.heap.size + 1; omega) _⟩
    have hU := ((HU.out.setCell (p := ⟨w.heap.size + 1, 0, none⟩) (.int .i64 y) (by show w.heap.size + 1 < _; omega)).setCell (p := ⟨w.heap.size + 1, 1, none⟩) (.pointer p) (by show w.heap.size + 1 < _; omega)).mono (Nat.le_add_right _ 2)
    first | rw [← bval_pos zs l HZ.out.1]; exact hU | rw [← bval_neg zs l HZ.out.1]; exact hU

set_option maxRecDepth 100000 in
theorem scalarInt_c (B : Nat) (bits : Int) (n : Bool) (txt : ByteArray) (v2 : Value) (A5 : Option Addr) (n5 c5 : Nat) (l : List Int) (w : World) (h : Sl .u8 B w v2 l) (hl : Bytes l) (hlen : l.length ≤ 2147483647) :
    Calls Tryz.prog 17 #[.int .i64 2, .agg #[.int .i64 2, .bool n, v2, .int .u64 bits, .string txt, .slice A5 n5 c5]] w fun e w' => ∃ u, e = .returned (.tuple #[.iface 69 u, .bool true]) ∧ SIv w.heap.size w' u (val n l) ∧ Below w.heap.size w w' := by
  have HC := Lib.hid (fun w' (hb : Below w.heap.size w w') => iwhole_c B 2 bits n txt v2 A5 n5 c5 l w' (h.below hb) hl hlen)
  have HB0 : Hid (∀ o, Below w.heap.size w (w.alloc o)) := fun o => (Below.refl _ _).alloc (Nat.le_refl _) o
  obtain ⟨A2, c2, rfl, _⟩ := h.c
  clear h hl
  go_enter Tryz.func17, Tryz.ntmps17
  go_wp2_with (go_at_call 24; refine (HC.out _ (HB0.out _)).mono ?_; rintro e w1 ⟨u, rfl, hu, hb1⟩; have HU := Lib.hid hu; have HB := Lib.hid hb1; clear hu hb1)
  go_ret2
  exact ⟨u, rfl, HU.out.mono (by simp), (HB0.out _).trans (HB.out.mono (by simp))⟩

set_option maxRecDepth 100000 in
theorem valueInt_c (B : Nat) (bits : Int) (n : Bool) (txt : ByteArray) (v2 : Value) (A5 : Option Addr) (n5 c5 : Nat) (l : List Int) (w : World) (h : Sl .u8 B w v2 l) (hl : Bytes l) (hlen : l.length ≤ 2147483647) :
    Calls Tryz.prog 13 #[.agg #[.int .i64 2, .bool n, v2, .int .u64 bits, .string txt, .slice A5 n5 c5]] w fun e w' => ∃ u, e = .returned (.tuple #[.iface 69 u, .bool true]) ∧ SIv w.heap.size w' u (val n l) ∧ Below w.heap.size w w' := by
  have HC := Lib.hid (fun w' (hb : Below w.heap.size w w') => scalarInt_c B bits n txt v2 A5 n5 c5 l w' (h.below hb) hl hlen)
  have HB0 : Hid (∀ o, Below w.heap.size w (w.alloc o)) := fun o => (Below.refl _ _).alloc (Nat.le_refl _) o
  obtain ⟨A2, c2, rfl, _⟩ := h.c
  clear h hl
  go_enter Tryz.func13, Tryz.ntmps13
  go_wp2_with (go_at_call 17; refine (HC.out _ (by first | exact HB0.out _ | exact (HB0.out _).drew)).mono ?_; rintro e w1 ⟨u, rfl, hu, hb1⟩; have HU := Lib.hid hu; have HB := Lib.hid hb1; clear hu hb1)
  go_ret2
  exact ⟨u, rfl, HU.out.mono (by simp), (HB0.out _).trans (HB.out.mono (by simp))⟩

/-- (starlark.Int).get. -/
theorem get_c (y : Int) (p : Option Addr) (w : World) :
    Calls Tryz.prog 23 #[.agg #[.int .i64 y, .pointer p]] w fun e w' => e = .returned (.tuple #[.int .i64 y, .pointer p]) ∧ Below w.heap.size w w' := by
  go_enter Tryz.func23, Tryz.ntmps23
  go_wp2
  go_quiet (fail)
  go_wp2
  go_ret2
  exact ⟨rfl, by apply pw_below_drewN; exact (Below.refl _ _).alloc (Nat.le_refl _) _⟩

set_option maxRecDepth 100000 in
theorem errNew_c (s : ByteArray) (w : World) :
    Calls Tryz.prog 22 #[.string s] w fun e w' => ∃ a, e = .returned (.iface 104 (.pointer (some a))) ∧ Below w.heap.size w w' := by
  go_enter Tryz.func22, Tryz.ntmps22
  go_wp2
  go_ret
  exact ⟨_, rfl, (Below.refl _ _).alloc (Nat.le_refl _) _⟩

theorem assertInt (v : Value) (w : World) : (Instr.typeAssert (.iface 69 v) 42 69 true).run Tryz.prog w = .ok (.tuple #[v, .bool true]) w := by kernel_rfl
set_option maxRecDepth 100000 in
/-- starlark.AsInt32 of an integer: the number, if it is an int32; else an error. -/
theorem asInt32_c (B : Nat) (u : Value) (x : Int) (w : World) (h : SIv B w u x) :
    Calls Tryz.prog 14 #[.iface 69 u] w fun e w' => (if sml x then e = .returned (.tuple #[.int .i64 x, .nilIface]) else ∃ a, e = .returned (.tuple #[.int .i64 0, .iface 104 (.pointer (some a))])) ∧ Below w.heap.size w w' := by
  have hta := assertInt
  have HB0 : Hid (∀ o, Below w.heap.size w (w.alloc o)) := fun o => (Below.refl _ _).alloc (Nat.le_refl _) o
  rcases h with ⟨hs, rfl⟩ | ⟨hs, g, neg, u1, zs, rfl, hg, hi, he, hl⟩
  · simp only [hs, if_true]
    go_enter Tryz.func14, Tryz.ntmps14
    go_wp2_with (go_at_call 23; refine (get_c _ _ _).mono ?_; rintro e w1 ⟨rfl, hb1⟩; have HB := Lib.hid hb1; clear hb1)
    go_ret2
    exact ⟨rfl, (HB0.out _).trans (HB.out.mono (by simp))⟩
  · simp only [hs, Bool.false_eq_true, if_false]
    clear hi he hg hl
    go_enter Tryz.func14, Tryz.ntmps14
    go_wp2_with (first | (go_at_call 23; refine (get_c _ _ _).mono ?_; rintro e w1 ⟨rfl, hb1⟩; have HB := Lib.hid hb1; clear hb1) | (go_at_call 22; refine (errNew_c _ _).mono ?_; rintro e w2 ⟨a, rfl, hb2⟩; replace HB := Lib.hid (HB.out.trans (hb2.mono HB.out.size)); clear hb2))
    go_ret2
    exact ⟨⟨a, rfl⟩, (HB0.out _).trans (HB.out.mono (by simp))⟩

/-- impl.AsInt32 of an integer. -/
def asOut (x : Int) : Value := if sml x then .tuple #[.int .i64 x, .bool true] else .tuple #[.int .i64 0, .bool false]
set_option maxRecDepth 100000 in
theorem iasInt32_c (B : Nat) (bits : Int) (n : Bool) (txt : ByteArray) (v2 : Value) (A5 : Option Addr) (n5 c5 : Nat) (l : List Int) (w : World) (h : Sl .u8 B w v2 l) (hl : Bytes l) (hlen : l.length ≤ 2147483647) :
    Calls Tryz.prog 7 #[.agg #[.int .i64 2, .bool n, v2, .int .u64 bits, .string txt, .slice A5 n5 c5]] w fun e w' => e = .returned (asOut (val n l)) ∧ Below w.heap.size w w' := by
  have HC := Lib.hid (fun w' (hb : Below w.heap.size w w') => valueInt_c B bits n txt v2 A5 n5 c5 l w' (h.below hb) hl hlen)
  have HB0 : Hid (∀ o, Below w.heap.size w (w.alloc o)) := fun o => (Below.refl _ _).alloc (Nat.le_refl _) o
  obtain ⟨A2, c2, rfl, _⟩ := h.c
  clear h hl
  obtain ⟨x, hx⟩ : ∃ x, val n l = x := ⟨_, rfl⟩
  rw [hx] at HC ⊢
  clear hx
  unfold asOut
  cases hs : sml x
  · have HA := Lib.hid (fun w' u B (hu : SIv B w' u x) => asInt32_c B u x w' hu)
    rw [hs] at HA
    simp only [Bool.false_eq_true, if_false] at HA ⊢
    go_enter Tryz.func7, Tryz.ntmps7
    go_wp2_with (first | (go_at_call 13; refine (HC.out _ (HB0.out _)).mono ?_; rintro e w1 ⟨u, rfl, hu, hb1⟩; have HU := Lib.hid hu; have HB := Lib.hid hb1; clear hu hb1) | (go_at_call 14; refine (HA.out _ _ _ HU.out).mono ?_; rintro e w2 ⟨⟨a, rfl⟩, hb2⟩; replace HB := Lib.hid (HB.out.trans (hb2.mono HB.out.size)); clear hb2))
    go_ret2
    exact ⟨rfl, (HB0.out _).trans (HB.out.mono (by simp))⟩
  · have HA := Lib.hid (fun w' u B (hu : SIv B w' u x) => asInt32_c B u x w' hu)
    rw [hs] at HA
    simp only [if_true] at HA ⊢
    go_enter Tryz.func7, Tryz.ntmps7
    go_wp2_with (first | (go_at_call 13; refine (HC.out _ (HB0.out _)).mono ?_; rintro e w1 ⟨u, rfl, hu, hb1⟩; have HU := Lib.hid hu; have HB := Lib.hid hb1; clear hu hb1) | (go_at_call 14; refine (HA.out _ _ _ HU.out).mono ?_; rintro e w2 ⟨rfl, hb2⟩; replace HB := Lib.hid (HB.out.trans (hb2.mono HB.out.size)); clear hb2))
    go_ret2
    exact ⟨rfl, (HB0.out _).trans (HB.out.mono (by simp))⟩
end Go.Proofs.YtkkmnglnnfmnaaaGreatDoor
