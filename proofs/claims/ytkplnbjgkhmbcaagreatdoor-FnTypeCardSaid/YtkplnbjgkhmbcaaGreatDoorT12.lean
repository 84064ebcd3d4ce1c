/- SpecSame SpecEq SpecFind LawOf ValOpen TreeFind TreeWith TreeEq TreeEq2 TreeBase -/
import Derived.Test.YtkplnbjgkhmbcaaGreatDoorT03
import Derived.Test.YtkplnbjgkhmbcaaGreatDoorT09
import Derived.Test.YtkplnbjgkhmbcaaGreatDoorT10
import Derived.Test.YtkplnbjgkhmbcaaGreatDoorT11
import Derived.LoopTactic
import Derived.Deep.RegionHeld3
import Derived.OwnWalk
import Derived.Deep.Slices
import Derived.ChangeSame
import Derived.ChangeSlices
import Derived.OpenShut
import Derived.BigRegion
namespace Go.Proofs.YtkplnbjgkhmbcaaGreatDoor
open Go.RowKit Go.Shelf Go.Proofs.YtkplnbjgkhmbcaaGreatDoorW.PrintWords Go.Proofs.YtkplnbjgkhmbcaaGreatDoorW.PrintLast Go.Proofs.YtkplnbjgkhmbcaaGreatDoorW.PrintMore Go.Proofs.YtkplnbjgkhmbcaaGreatDoor.PFnCompare Go.Proofs.YtkplnbjgkhmbcaaGreatDoor.PCmp Go.Proofs.YtkplnbjgkhmbcaaGreatDoor.PbytesOf Go.Proofs.YtkplnbjgkhmbcaaGreatDoor.Pcmp
set_option linter.unusedVariables false
set_option linter.unusedSimpArgs false
structure TB (w0 : World) (cs ds : Array Value) (w : World) : Prop where
  b1 : w.heap[w0.heap.size]? = some (.cells cs 26 (0, 0))
  b2 : w.heap[w0.heap.size + 1]? = some (.cells ds 26 (0, 0))
  low : Below w0.heap.size w0 w
theorem TB.below {w0 w w' : World} {cs ds : Array Value} (h : TB w0 cs ds w) (hb : Below w.heap.size w w') : TB w0 cs ds w' := ⟨blk_below h.b1 hb, blk_below h.b2 hb, h.low.trans (hb.mono h.low.size)⟩
theorem tb_start (w : World) (cs ds : Array Value) : TB w cs ds ((w.alloc (.cells cs 26)).alloc (.cells ds 26)) :=
  ⟨blk_alloc (blk_new _ _) _, by simpa using blk_new (w.alloc (.cells cs 26)) (.cells ds 26), ((Below.refl _ _).alloc (Nat.le_refl _) _).alloc (by simp) _⟩
theorem cmpB_zero : ∀ (a b : List UInt8), (Lib.compareBytes a b == 0) = (a == b)
  | [], [] => rfl
  | [], _ :: _ => rfl
  | _ :: _, [] => rfl
  | a :: p, b :: q => by
    unfold Lib.compareBytes
    by_cases h1 : a < b
    · have : a ≠ b := fun e => by subst e; exact absurd h1 (by simp)
      rw [if_pos h1]; simp [this]
    · by_cases h2 : b < a
      · have : a ≠ b := fun e => by subst e; exact absurd h2 (by simp)
        rw [if_neg h1, if_pos h2]; simp [this]
      · have : a = b := by
          apply UInt8.toNat_inj.1
          have h1' : ¬ a.toNat < b.toNat := h1
          have h2' : ¬ b.toNat < a.toNat := h2
          omega
        subst this
        rw [if_neg h1, if_neg h2, cmpB_zero p q]; simp
theorem eqS_bytes (a b : ByteArray) : eqS (.bytes a) (.bytes b) = (a == b) := by
  show (Lib.compareBytes a.data.toList b.data.toList == 0) = _
  rw [cmpB_zero]
  have h1 : (a == b) = (a.data == b.data) := rfl
  rw [h1]
  simp
theorem beqL (a b : ByteArray) : (a.toList == b.toList) = (a == b) := by
  rw [Lib.toList_data, Lib.toList_data]
  have h1 : (a == b) = (a.data == b.data) := rfl
  rw [h1]
  simp
theorem vm_shape {B : Nat} {w : World} {u : Value} {y : VT} (h : VM B w u y) : ∃ A2 c2 A5 c5, u = .agg #[.int .i64 y.f0, .bool y.f1, .slice A2 y.f2.length c2, .int .u64 y.f3, .string y.f4, .slice A5 y.f5.length c5] ∧ kV.M w B (fun _ => True) y [.int .i64 y.f0, .bool y.f1, .slice A2 y.f2.length c2, .int .u64 y.f3, .string y.f4, .slice A5 y.f5.length c5] := by
  obtain ⟨cs, rfl, hM⟩ := h
  obtain ⟨v2, v5, rfl, g2, g5⟩ := k26_openM hM
  obtain ⟨A2, c2, rfl⟩ := Kd.R_slice g2
  obtain ⟨A5, c5, rfl⟩ := Kd.R_slice g5
  exact ⟨A2, c2, A5, c5, rfl, hM⟩
end Go.Proofs.YtkplnbjgkhmbcaaGreatDoor
namespace Go.Proofs.YtkplnbjgkhmbcaaGreatDoor
open Go.RowKit Go.Shelf Go.ChangeShapes Go.WideShapes Go.Deep Go.Proofs.YtkplnbjgkhmbcaaGreatDoorW.PrintWords Go.Proofs.YtkplnbjgkhmbcaaGreatDoorW.PrintLast Go.Proofs.YtkplnbjgkhmbcaaGreatDoorW.PrintMore Go.Proofs.YtkplnbjgkhmbcaaGreatDoor.PFnCompare Go.Proofs.YtkplnbjgkhmbcaaGreatDoor.PCmp Go.Proofs.YtkplnbjgkhmbcaaGreatDoor.PbytesOf Go.Proofs.YtkplnbjgkhmbcaaGreatDoor.Pcmp
set_option linter.unusedVariables false
set_option linter.unusedSimpArgs false
section
variable {H : Type} {enc : TypeId × Value → H} {W : World}
theorem bytes_open {fuel : Nat} {v : Value} {y : DataW H × List MemPlace} (h : DataW.trod enc Tryz.prog W 0 (fun _ => true) true fuel 22 [v] = some y) : ∃ A c l, v = .slice A l.length c ∧ l.length ≤ c ∧ (Kd.int .u8).C W A l.length l ∧ Bytes l := by
  have hc1 : Tryz.prog.cellsOf 5 = 1 := by kernel_rfl
  rcases open_ints Tryz.underlying22 Tryz.underlying5 hc1 h with ⟨hcs, _⟩ | ⟨ad, len, cap, zs, hcs, _, hle, hmax, hall, _, hcell, hwf⟩
  · simp only [List.cons.injEq, and_true] at hcs
    exact ⟨none, 0, [], hcs, Nat.le_refl _, c_nil, fun x hx => by cases hx⟩
  · simp only [List.cons.injEq, and_true] at hcs
    simp only [if_true] at hall
    unfold maxLen at hmax
    have hlen : (zs.take len).length = len := by rw [List.length_take]; omega
    refine ⟨some ad, cap, zs.take len, by rw [hlen]; exact hcs, by omega, ⟨rfl, by omega, fun hp => ⟨ad, rfl, fun j p hj => ⟨[.int .u8 p], rfl, rfl, fun i u hu => ?_⟩⟩⟩, fun x hx => ?_⟩
    · have hi : i = 0 := by
        rcases i with _ | i
        · rfl
        · simp at hu
      subst hi
      simp only [List.getElem?_cons_zero, Option.some.injEq] at hu
      subst hu
      obtain ⟨hj1, hj2⟩ := List.getElem?_eq_some_iff.1 hj
      have hj3 : j < zs.length := by rw [hlen] at hj1; omega
      have := hcell j hj3
      rw [List.getD_eq_getElem?_getD, List.getElem?_eq_getElem hj3] at this
      rw [List.getElem_take] at hj2
      rw [show j * (Kd.int IntKind.u8).sz + 0 = j from (by show j * 1 + 0 = j; omega), this, ← hj2]
      rfl
    · have := hwf x (List.mem_of_mem_take hx)
      have h0 : IntKind.u8.min = 0 := by decide
      have h1 : IntKind.u8.max = 255 := by decide
      simp [Lit.wf, h0, h1] at this
      omega
set_option maxRecDepth 100000 in
theorem val_open {fuel : Nat} {cs : List Value} {y : DataW H × List MemPlace} (h : DataW.trod enc Tryz.prog W 0 (fun _ => true) true fuel 26 cs = some y) :
    ∃ (x : VT) (A2 A5 : Option Addr) (c2 n5 c5 : Nat), cs = [.int .i64 x.f0, .bool x.f1, .slice A2 x.f2.length c2, .int .u64 x.f3, .string x.f4, .slice A5 n5 c5] ∧ x.f2.length ≤ c2 ∧ (Kd.int .u8).C W A2 x.f2.length x.f2 ∧ Raw x := by
  obtain ⟨ys, n, _, _, hl, hyl, hf⟩ := DataW.trod_struct Tryz.underlying26 h
  have h6 : Tryz.prog.cellsOf 26 = 6 := by kernel_rfl
  rw [h6] at hl
  match cs, hl with
  | [v0, v1, v2, v3, v4, v5], _ =>
    match ys, hyl with
    | [y0, y1, y2, y3, y4, y5], _ =>
      have e3 : Tryz.prog.cellsOf 3 = 1 := by kernel_rfl
      have e4 : Tryz.prog.cellsOf 4 = 1 := by kernel_rfl
      have e22 : Tryz.prog.cellsOf 22 = 1 := by kernel_rfl
      have e23 : Tryz.prog.cellsOf 23 = 1 := by kernel_rfl
      have e9 : Tryz.prog.cellsOf 9 = 1 := by kernel_rfl
      have e24 : Tryz.prog.cellsOf 24 = 1 := by kernel_rfl
      have f0 : DataW.trod enc Tryz.prog W 0 (fun _ => true) true n 3 [v0] = some y0 := by simpa [e3] using hf 0 _ rfl
      have f1 : DataW.trod enc Tryz.prog W 0 (fun _ => true) true n 4 [v1] = some y1 := by simpa [e4] using hf 1 _ rfl
      have f2 : DataW.trod enc Tryz.prog W 0 (fun _ => true) true n 22 [v2] = some y2 := by simpa [e22] using hf 2 _ rfl
      have f3 : DataW.trod enc Tryz.prog W 0 (fun _ => true) true n 23 [v3] = some y3 := by simpa [e23] using hf 3 _ rfl
      have f4 : DataW.trod enc Tryz.prog W 0 (fun _ => true) true n 9 [v4] = some y4 := by simpa [e9] using hf 4 _ rfl
      have f5 : DataW.trod enc Tryz.prog W 0 (fun _ => true) true n 24 [v5] = some y5 := by simpa [e24] using hf 5 _ rfl
      obtain ⟨k, hk, _⟩ := DataW.trod_int Tryz.underlying3 f0
      obtain ⟨b, hb, _⟩ := DataW.trod_bool Tryz.underlying4 f1
      obtain ⟨A2, c2, l, rfl, hl2, hC, hB⟩ := bytes_open f2
      obtain ⟨u, hu, _, huw⟩ := DataW.trod_int Tryz.underlying23 f3
      obtain ⟨t, ht, _⟩ := DataW.trod_string Tryz.underlying9 f4
      have h5 : ∃ A5 n5 c5, v5 = .slice A5 n5 c5 := by
        rcases open_slice Tryz.underlying24 f5 with ⟨hcs, _⟩ | ⟨a, len, cap, m, n, D, Pl, hcs, _⟩
        · simp only [List.cons.injEq, and_true] at hcs; exact ⟨_, _, _, hcs⟩
        · simp only [List.cons.injEq, and_true] at hcs; exact ⟨_, _, _, hcs⟩
      obtain ⟨A5, n5, c5, rfl⟩ := h5
      simp only [List.cons.injEq, and_true] at hk hb hu ht
      subst hk hb hu ht
      have hub := bounds_u64 huw
      exact ⟨⟨k, b, l, u, t, []⟩, A2, A5, c2, n5, c5, rfl, hl2, hC, ⟨⟨hub.1, by show u < _; omega⟩, hB⟩⟩
end
end Go.Proofs.YtkplnbjgkhmbcaaGreatDoor
namespace Go.Proofs.YtkplnbjgkhmbcaaGreatDoor
open Go.RowKit Go.Shelf Go.Proofs.YtkplnbjgkhmbcaaGreatDoorW.PrintWords Go.Proofs.YtkplnbjgkhmbcaaGreatDoorW.PrintLast Go.Proofs.YtkplnbjgkhmbcaaGreatDoorW.PrintMore Go.Proofs.YtkplnbjgkhmbcaaGreatDoor.PFnCompare Go.Proofs.YtkplnbjgkhmbcaaGreatDoor.PCmp Go.Proofs.YtkplnbjgkhmbcaaGreatDoor.PbytesOf Go.Proofs.YtkplnbjgkhmbcaaGreatDoor.Pcmp
set_option linter.unusedVariables false
set_option linter.unusedSimpArgs false
def NoneTo (E : VT → Bool) (xs : List VT) (step : Nat) (i : Nat) : Prop := ∀ k (h : k * step < xs.length), k * step < i → E xs[k * step] = false
def FindE (E : VT → Bool) (xs : List VT) (step : Nat) (r : Int) : Prop :=
  (r = -1 ∧ NoneTo E xs step xs.length) ∨ ∃ k, ∃ h : k * step < xs.length, r = ((k * step : Nat) : Int) ∧ E xs[k * step] = true ∧ NoneTo E xs step (k * step)
theorem findE_by (E : VT → VT → Bool) (key : VT) (xs : List VT) (step : Nat) (hs : 0 < step) : ∀ (d k i : Nat), i = k * step → xs.length - i ≤ d → NoneTo (fun x => E x key) xs step i → FindE (fun x => E x key) xs step (match findBy E xs step key (d + 1) i with | some j => (j : Int) | none => -1)
  | 0, k, i, hi, hd, hn => by
    unfold findBy
    rw [dif_neg (by omega)]
    exact Or.inl ⟨rfl, fun q h1 h2 => hn q h1 (by omega)⟩
  | d + 1, k, i, hi, hd, hn => by
    unfold findBy
    by_cases h : i < xs.length
    · rw [dif_pos h]
      by_cases he : E xs[i] key = true
      · rw [if_pos he]
        subst hi
        exact Or.inr ⟨k, h, rfl, he, hn⟩
      · rw [if_neg he]
        refine findE_by E key xs step hs d (k + 1) (i + step) (by rw [hi, Nat.succ_mul]) (by omega) fun q h1 h2 => ?_
        by_cases hq : q * step < i
        · exact hn q h1 hq
        · have : q = k := by
            have h3 : k * step ≤ q * step := by omega
            have h4 : q * step < (k + 1) * step := by rw [Nat.succ_mul]; omega
            have h5 := Nat.le_of_mul_le_mul_right h3 hs
            have h6 := Nat.lt_of_mul_lt_mul_right h4
            omega
          subst this
          subst hi
          simpa using he
    · rw [dif_neg h]
      exact Or.inl ⟨rfl, fun q h1 h2 => hn q h1 (by omega)⟩
theorem findE_one {E : VT → Bool} {xs : List VT} {step : Nat} {r r' : Int} (hs : 0 < step) (h : FindE E xs step r) (h' : FindE E xs step r') : r = r' := by
  rcases h with ⟨rfl, h⟩ | ⟨k, hk, rfl, he, hn⟩ <;> rcases h' with ⟨rfl, h'⟩ | ⟨k', hk', rfl, he', hn'⟩
  · rfl
  · rw [h k' hk' hk'] at he'; cases he'
  · rw [h' k hk hk] at he; cases he
  · rcases Nat.lt_trichotomy (k * step) (k' * step) with hlt | heq | hlt
    · rw [hn' k hk hlt] at he; cases he
    · rw [heq]
    · rw [hn k' hk' hlt] at he'; cases he'
def findR (E : VT → VT → Bool) (xs : List VT) (step : Nat) (key : VT) : Int := match findV E xs step key with | some j => (j : Int) | none => -1
theorem findR_is (E : VT → VT → Bool) (xs : List VT) (step : Nat) (hs : 0 < step) (key : VT) {r : Int} (h : FindE (fun x => E x key) xs step r) : r = findR E xs step key := by
  have := findE_by E key xs step hs xs.length 0 0 (by omega) (by omega) (fun q h1 h2 => absurd h2 (Nat.not_lt_zero _))
  exact findE_one hs h this
set_option maxRecDepth 100000 in
set_option maxHeartbeats 1000000 in
theorem treeFind_c (E : VT → VT → Bool) (A : Option Addr) (c : Nat) (xs : List VT) (y : VT) (v : Value) (step : Nat) (w : World) (h : kV.C w A xs.length xs) (hy : VR w v y) (hn : xs.length ≤ 1000000) (hs : step = 1 ∨ step = 2)
    (hE : ∀ W, Below w.heap.size w W → ∀ i (hi : i < xs.length) u v', VR W u xs[i] → VR W v' y → Calls Tryz.prog 30 #[u, v'] W fun e W' => e = .returned (.bool (E xs[i] y)) ∧ Below W.heap.size W W') :
    Calls Tryz.prog 53 #[.slice A xs.length c, .int .i64 step, v] w fun e w' => e = .returned (.int .i64 (findR E xs step y)) ∧ Below w.heap.size w w' := by
  have HY := Lib.hid hy
  obtain ⟨A2, c2, A5, c5, rfl, _⟩ := hy.open
  obtain ⟨W0, hW0⟩ : ∃ W, W = w.alloc (.cells #[.int .i64 y.f0, .bool y.f1, .slice A2 y.f2.length c2, .int .u64 y.f3, .string y.f4, .slice A5 y.f5.length c5] 26) := ⟨_, rfl⟩
  have HB0 : Hid (Below w.heap.size w W0) := by rw [hW0]; exact Lib.hid ((Below.refl _ w).alloc (Nat.le_refl _) _)
  have HK0 : Hid (W0.heap[w.heap.size]? = some (.cells #[.int .i64 y.f0, .bool y.f1, .slice A2 y.f2.length c2, .int .u64 y.f3, .string y.f4, .slice A5 y.f5.length c5] 26 (0, 0))) := by rw [hW0]; exact Lib.hid (blk_new _ _)
  have HK := Lib.hid (fun i hi => kid_at h i hi rfl)
  have HE : Hid (∀ W, Below w.heap.size w W → ∀ i (hi : i < xs.length) u, VR W u xs[i] → Calls Tryz.prog 30 #[u, .agg #[.int .i64 y.f0, .bool y.f1, .slice A2 y.f2.length c2, .int .u64 y.f3, .string y.f4, .slice A5 y.f5.length c5]] W fun e W' => e = .returned (.bool (E xs[i] y)) ∧ Below W.heap.size W W') := Lib.hid fun W hW i hi u hu => hE W hW i hi u _ hu (HY.out.below hW)
  have HR : Hid (∀ r, FindE (fun x => E x y) xs step r → r = findR E xs step y) := Lib.hid fun r hr => findR_is E xs step (by omega) y hr
  have hs2 : (0 : Int) < step ∧ (step : Int) ≤ 2 := by omega
  obtain ⟨hs3, hs4⟩ := hs2
  clear h hy hE hs
  go_enter Tryz.func53, Tryz.ntmps53
  go_wp2_with fail
  rw [← hW0]
  clear hW0
  go_loopw [7] (fun i wr => ∃ j k : Nat, j = k * step ∧ j ≤ xs.length + 2 ∧ i = .int .i64 (j : Int) ∧ Hid (NoneTo (fun x => E x y) xs step j) ∧ Hid (Below w.heap.size w wr ∧ wr.heap[w.heap.size]? = some (.cells #[.int .i64 y.f0, .bool y.f1, .slice A2 y.f2.length c2, .int .u64 y.f3, .string y.f4, .slice A5 y.f5.length c5] 26 (0, 0)))) (fun i _ => xs.length + 2 - (intOf i).toNat)
  case atStart => exact ⟨0, 0, by omega, Nat.zero_le _, rfl, Lib.hid fun q h1 h2 => absurd h2 (Nat.not_lt_zero _), Lib.hid ⟨HB0.out, HK0.out⟩⟩
  case round =>
    obtain ⟨j, k, hjk, hj, rfl, HQ, HW⟩ := hrel
    by_cases hlt : j < xs.length
    · obtain ⟨b, o, B2, d2, B5, d5, rfl, hb, k0, k1, k2, k3, k4, k5, hV⟩ := HK.out j hlt
      have hB := HW.out.1
      have x0 := (hB.cell (p := ⟨b, o + j * 6, none⟩) hb).trans k0
      have x1 := (hB.cell (p := ⟨b, o + j * 6 + 1, none⟩) hb).trans k1
      have x2 := (hB.cell (p := ⟨b, o + j * 6 + 2, none⟩) hb).trans k2
      have x3 := (hB.cell (p := ⟨b, o + j * 6 + 3, none⟩) hb).trans k3
      have x4 := (hB.cell (p := ⟨b, o + j * 6 + 4, none⟩) hb).trans k4
      have x5 := (hB.cell (p := ⟨b, o + j * 6 + 5, none⟩) hb).trans k5
      have z := cells6 HW.out.2
      have HEj := Lib.hid (fun W (hW : Below w.heap.size w W) => HE.out W hW j hlt _ (hV.below hW))
      clear k0 k1 k2 k3 k4 k5 hV hB
      obtain ⟨qj, hqj⟩ : ∃ b, E xs[j] y = b := ⟨_, rfl⟩
      rw [hqj] at HEj
      have HQJ := Lib.hid hqj
      have HJK := Lib.hid hjk
      clear hqj hjk
      go_upto_region 4 with fail
      go_region_held3 (fun W => (W.cell? ⟨b, o + j * 6, none⟩ = some (.int .i64 xs[j].f0) ∧ W.cell? ⟨b, o + j * 6 + 1, none⟩ = some (.bool xs[j].f1) ∧ W.cell? ⟨b, o + j * 6 + 2, none⟩ = some (.slice B2 xs[j].f2.length d2) ∧ W.cell? ⟨b, o + j * 6 + 3, none⟩ = some (.int .u64 xs[j].f3) ∧ W.cell? ⟨b, o + j * 6 + 4, none⟩ = some (.string xs[j].f4) ∧ W.cell? ⟨b, o + j * 6 + 5, none⟩ = some (.slice B5 xs[j].f5.length d5)) ∧ (W.cell? ⟨w.heap.size, 0, none⟩ = some (.int .i64 y.f0) ∧ W.cell? ⟨w.heap.size, 1, none⟩ = some (.bool y.f1) ∧ W.cell? ⟨w.heap.size, 2, none⟩ = some (.slice A2 y.f2.length c2) ∧ W.cell? ⟨w.heap.size, 3, none⟩ = some (.int .u64 y.f3) ∧ W.cell? ⟨w.heap.size, 4, none⟩ = some (.string y.f4) ∧ W.cell? ⟨w.heap.size, 5, none⟩ = some (.slice A5 y.f5.length c5))) (first | (with_reducible exact ⟨⟨r0, r1, r2, r3, r4, r5⟩, q⟩) | (with_reducible exact ⟨⟨x0, x1, x2, x3, x4, x5⟩, z⟩) | exact ⟨⟨x0, x1, x2, x3, x4, x5⟩, z⟩) (first
        | (go_at_call 30; (with_reducible refine (HEj.out _ (by first | (with_reducible exact HW.out.1.drew) | exact HW.out.1.drew)).mono ?_); rintro e w1 ⟨rfl, hb1⟩; have HB1 : Hid (Below w.heap.size w w1 ∧ w1.heap[w.heap.size]? = some (.cells #[.int .i64 y.f0, .bool y.f1, .slice A2 y.f2.length c2, .int .u64 y.f3, .string y.f4, .slice A5 y.f5.length c5] 26 (0, 0))) := Lib.hid ⟨HW.out.1.drew.trans (hb1.mono HW.out.1.size), (hb1.block _ (lt_blk HW.out.2)).trans HW.out.2⟩; have hbw := Nat.lt_of_lt_of_le hb HW.out.1.size; have r0 := (hb1.cell (p := ⟨b, o + j * 6, none⟩) hbw).trans x0; have r1 := (hb1.cell (p := ⟨b, o + j * 6 + 1, none⟩) hbw).trans x1; have r2 := (hb1.cell (p := ⟨b, o + j * 6 + 2, none⟩) hbw).trans x2; have r3 := (hb1.cell (p := ⟨b, o + j * 6 + 3, none⟩) hbw).trans x3; have r4 := (hb1.cell (p := ⟨b, o + j * 6 + 4, none⟩) hbw).trans x4; have r5 := (hb1.cell (p := ⟨b, o + j * 6 + 5, none⟩) hbw).trans x5; have q := cells6 HB1.out.2; clear hb1))
      clear x0 x1 x2 x3 x4 x5 z r0 r1 r2 r3 r4 r5 q
      cases qj
      · go_wp2
        go_roundw
        case rel =>
          refine ⟨j + step, k + 1, by rw [HJK.out, Nat.succ_mul], by omega, by go_num, Lib.hid fun q h1 h2 => ?_, HB1⟩
          have hst : 0 < step := by omega
          by_cases hq : q * step < j
          · exact HQ.out q h1 hq
          · have e : q = k := by
              have h3 : k * step ≤ q * step := by rw [← HJK.out]; omega
              have h4 : q * step < (k + 1) * step := by rw [Nat.succ_mul, ← HJK.out]; omega
              have h5 := Nat.le_of_mul_le_mul_right h3 hst
              have h6 := Nat.lt_of_mul_lt_mul_right h4
              omega
            subst e
            have := HQJ.out
            have ej := HJK.out
            subst ej
            exact this
        case measure => simp [intOf]; omega
      · go_wp2
        go_ret
        have ej := HJK.out
        have hq := HQJ.out
        subst ej
        exact ⟨by rw [← HR.out _ (Or.inr ⟨k, hlt, rfl, hq, HQ.out⟩)]; rfl, HB1.out.1⟩
    · go_wp2
      go_ret
      exact ⟨by rw [← HR.out _ (Or.inl ⟨rfl, fun q h1 h2 => HQ.out q h1 (by omega)⟩)]; rfl, HW.out.1⟩
theorem findR_neg (E : VT → VT → Bool) (ys : List VT) (step : Nat) (k : VT) : decide (findR E ys step k < 0) = !(findV E ys step k).isSome := by
  unfold findR
  cases findV E ys step k with
  | none => rfl
  | some j => simp
def AllTo (P : VT → Bool) (xs : List VT) (j : Nat) : Prop := ∀ i (h : i < xs.length), i < j → P xs[i] = true
theorem all_of_to {P : VT → Bool} {xs : List VT} (h : AllTo P xs xs.length) : xs.all P = true := by
  rw [List.all_eq_true]
  intro x hx
  obtain ⟨i, hi, rfl⟩ := List.getElem_of_mem hx
  exact h i hi hi
theorem all_not {P : VT → Bool} {xs : List VT} (i : Nat) (h : i < xs.length) (hp : P xs[i] = false) : xs.all P = false := by
  rw [Bool.eq_false_iff]
  intro hh
  rw [List.all_eq_true] at hh
  have := hh _ (List.getElem_mem h)
  rw [hp] at this
  cases this
set_option maxRecDepth 100000 in
set_option maxHeartbeats 1000000 in
theorem treeWithin_c (E : VT → VT → Bool) (x y : VT) (v1 v2 : Value) (w : World) (h1 : VR w v1 x) (h2 : VR w v2 y) (hn1 : x.f5.length ≤ 1000000) (hn2 : y.f5.length ≤ 1000000)
    (hE : ∀ W, Below w.heap.size w W → ∀ j (hj : j < y.f5.length) i (hi : i < x.f5.length) u v', VR W u y.f5[j] → VR W v' x.f5[i] → Calls Tryz.prog 30 #[u, v'] W fun e W' => e = .returned (.bool (E y.f5[j] x.f5[i])) ∧ Below W.heap.size W W') :
    Calls Tryz.prog 66 #[v1, v2] w fun e w' => e = .returned (.bool (x.f5.all (fun k => (findV E y.f5 1 k).isSome))) ∧ Below w.heap.size w w' := by
  obtain ⟨A2, c2, A5, c5, rfl, _, _, _, g1⟩ := h1.open
  obtain ⟨B2, d2, B5, d5, rfl, _, _, _, g2⟩ := h2.open
  obtain ⟨a0, a1, a2, a3, a4, xs⟩ := x
  obtain ⟨b0, b1, b2, b3, b4, ys⟩ := y
  dsimp only at *
  have HF : Hid (∀ W, Below w.heap.size w W → ∀ i (hi : i < xs.length) u, VR W u xs[i] → Calls Tryz.prog 53 #[.slice B5 ys.length d5, .int .i64 1, u] W fun e W' => e = .returned (.int .i64 (findR E ys 1 xs[i])) ∧ Below W.heap.size W W') := Lib.hid fun W hW i hi u hu =>
    treeFind_c E B5 d5 ys xs[i] u 1 W (Kd.C_below g2 hW) hu hn2 (Or.inl rfl) fun W2 hW2 j hj u2 v2 k1 k2 => hE W2 (hW.trans (hW2.mono hW.size)) j hj i hi u2 v2 k1 k2
  have HK := Lib.hid (fun i hi => kid_at g1 i hi rfl)
  obtain ⟨W0, hW0⟩ : ∃ W, W = (w.alloc (.cells #[.int .i64 a0, .bool a1, .slice A2 a2.length c2, .int .u64 a3, .string a4, .slice A5 xs.length c5] 26)).alloc (.cells #[.int .i64 b0, .bool b1, .slice B2 b2.length d2, .int .u64 b3, .string b4, .slice B5 ys.length d5] 26) := ⟨_, rfl⟩
  have HT0 : Hid (TB w #[.int .i64 a0, .bool a1, .slice A2 a2.length c2, .int .u64 a3, .string a4, .slice A5 xs.length c5] #[.int .i64 b0, .bool b1, .slice B2 b2.length d2, .int .u64 b3, .string b4, .slice B5 ys.length d5] W0) := by rw [hW0]; exact Lib.hid (tb_start w _ _)
  clear h1 h2 g1 g2 hE
  go_enter Tryz.func66, Tryz.ntmps66
  go_wp2_with fail
  rw [← hW0]
  clear hW0
  go_loopw [5] (fun i wr => ∃ j : Nat, j ≤ xs.length ∧ i = .int .i64 (j : Int) ∧ Hid (AllTo (fun k => (findV E ys 1 k).isSome) xs j) ∧ Hid (TB w #[.int .i64 a0, .bool a1, .slice A2 a2.length c2, .int .u64 a3, .string a4, .slice A5 xs.length c5] #[.int .i64 b0, .bool b1, .slice B2 b2.length d2, .int .u64 b3, .string b4, .slice B5 ys.length d5] wr)) (fun i _ => xs.length - (intOf i).toNat)
  case atStart => exact ⟨0, Nat.zero_le _, rfl, Lib.hid fun q h1 h2 => absurd h2 (Nat.not_lt_zero _), HT0⟩
  case round =>
    obtain ⟨j, hj, rfl, HQ, HT⟩ := hrel
    by_cases hlt : j < xs.length
    · obtain ⟨b, o, B2', d2', B5', d5', rfl, hb, k0, k1, k2, k3, k4, k5, hV⟩ := HK.out j hlt
      have hB := HT.out.low
      have x0 := (hB.cell (p := ⟨b, o + j * 6, none⟩) hb).trans k0
      have x1 := (hB.cell (p := ⟨b, o + j * 6 + 1, none⟩) hb).trans k1
      have x2 := (hB.cell (p := ⟨b, o + j * 6 + 2, none⟩) hb).trans k2
      have x3 := (hB.cell (p := ⟨b, o + j * 6 + 3, none⟩) hb).trans k3
      have x4 := (hB.cell (p := ⟨b, o + j * 6 + 4, none⟩) hb).trans k4
      have x5 := (hB.cell (p := ⟨b, o + j * 6 + 5, none⟩) hb).trans k5
      have z5 := (cells6 HT.out.b1).2.2.2.2.2
      have y5 := (cells6 HT.out.b2).2.2.2.2.2
      have HFj := Lib.hid (fun W (hW : Below w.heap.size w W) => HF.out W hW j hlt _ (hV.below hW))
      clear k0 k1 k2 k3 k4 k5 hV hB
      obtain ⟨r, hr⟩ : ∃ r, findR E ys 1 xs[j] = r := ⟨_, rfl⟩
      have HN := Lib.hid (findR_neg E ys 1 xs[j])
      rw [hr] at HFj HN
      clear hr
      go_upto_region 4 with fail
      go_region_held3 (fun W => (W.cell? ⟨b, o + j * 6, none⟩ = some (.int .i64 xs[j].f0) ∧ W.cell? ⟨b, o + j * 6 + 1, none⟩ = some (.bool xs[j].f1) ∧ W.cell? ⟨b, o + j * 6 + 2, none⟩ = some (.slice B2' xs[j].f2.length d2') ∧ W.cell? ⟨b, o + j * 6 + 3, none⟩ = some (.int .u64 xs[j].f3) ∧ W.cell? ⟨b, o + j * 6 + 4, none⟩ = some (.string xs[j].f4) ∧ W.cell? ⟨b, o + j * 6 + 5, none⟩ = some (.slice B5' xs[j].f5.length d5')) ∧ W.cell? ⟨w.heap.size, 5, none⟩ = some (.slice (some ⟨b, o, none⟩) xs.length c5) ∧ W.cell? ⟨w.heap.size + 1, 5, none⟩ = some (.slice B5 ys.length d5)) (first | (with_reducible exact ⟨⟨r0, r1, r2, r3, r4, r5⟩, q, p⟩) | (with_reducible exact ⟨⟨x0, x1, x2, x3, x4, x5⟩, z5, y5⟩) | exact ⟨⟨x0, x1, x2, x3, x4, x5⟩, z5, y5⟩) (first
        | (go_at_call 53; (with_reducible refine (HFj.out _ (by first | (with_reducible exact HT.out.low.drew) | exact HT.out.low.drew)).mono ?_); rintro e w1 ⟨rfl, hb1⟩; have HT1 : Hid (TB w #[.int .i64 a0, .bool a1, .slice A2 a2.length c2, .int .u64 a3, .string a4, .slice (some ⟨b, o, none⟩) xs.length c5] #[.int .i64 b0, .bool b1, .slice B2 b2.length d2, .int .u64 b3, .string b4, .slice B5 ys.length d5] w1) := Lib.hid ((HT.out.below ((Below.refl _ _).drew)).below hb1); have hbw := Nat.lt_of_lt_of_le hb HT.out.low.size; have r0 := (hb1.cell (p := ⟨b, o + j * 6, none⟩) hbw).trans x0; have r1 := (hb1.cell (p := ⟨b, o + j * 6 + 1, none⟩) hbw).trans x1; have r2 := (hb1.cell (p := ⟨b, o + j * 6 + 2, none⟩) hbw).trans x2; have r3 := (hb1.cell (p := ⟨b, o + j * 6 + 3, none⟩) hbw).trans x3; have r4 := (hb1.cell (p := ⟨b, o + j * 6 + 4, none⟩) hbw).trans x4; have r5 := (hb1.cell (p := ⟨b, o + j * 6 + 5, none⟩) hbw).trans x5; have q := (cells6 HT1.out.b1).2.2.2.2.2; have p := (cells6 HT1.out.b2).2.2.2.2.2; clear hb1))
      clear x0 x1 x2 x3 x4 x5 z5 y5 r0 r1 r2 r3 r4 r5 q p
      obtain ⟨s, hs⟩ : ∃ s, (findV E ys 1 xs[j]).isSome = s := ⟨_, rfl⟩
      rw [hs] at HN
      by_cases hneg : r < 0
      · go_wp2
        go_ret
        obtain rfl : s = false := by have := HN.out; simpa [hneg] using this.symm
        exact ⟨by rw [all_not j hlt hs]; rfl, HT1.out.low⟩
      · go_wp2
        go_roundw
        case rel =>
          obtain rfl : s = true := by have := HN.out; simpa [hneg] using this.symm
          refine ⟨j + 1, by omega, by go_num, Lib.hid fun q h1 h2 => ?_, HT1⟩
          by_cases hq : q < j
          · exact HQ.out q h1 hq
          · obtain rfl : q = j := by omega
            exact hs
        case measure => simp [intOf]; omega
    · have hjn : j = xs.length := by omega
      subst hjn
      have z5 := (cells6 HT.out.b1).2.2.2.2.2
      have hall := all_of_to HQ.out
      go_wp2
      go_ret
      exact ⟨by rw [hall]; rfl, HT.out.low⟩
theorem dictBy_step (e : VT → VT → Bool) (ys xs : List VT) (i : Nat) (h : i + 1 < xs.length) : dictBy e ys (xs.drop i) = ((match findV e ys 2 xs[i] with | none => false | some j => (match ys[j + 1]? with | none => false | some u => e xs[i + 1] u)) && dictBy e ys (xs.drop (i + 2))) := by
  rw [List.drop_eq_getElem_cons (by omega), List.drop_eq_getElem_cons (i := i + 1) h]
  rfl
theorem dictBy_end (e : VT → VT → Bool) (ys xs : List VT) (i : Nat) (h : ¬ i < xs.length) : dictBy e ys (xs.drop i) = true := by
  rw [List.drop_eq_nil_of_le (by omega)]; rfl
theorem all2_step (e : VT → VT → Bool) (xs ys : List VT) (i : Nat) (h : i < xs.length) (h2 : i < ys.length) : all2 e (xs.drop i) (ys.drop i) = (e xs[i] ys[i] && all2 e (xs.drop (i + 1)) (ys.drop (i + 1))) := by
  rw [List.drop_eq_getElem_cons h, List.drop_eq_getElem_cons h2]
  rfl
theorem all2_end (e : VT → VT → Bool) (xs ys : List VT) (i : Nat) (h : ¬ i < xs.length) : all2 e (xs.drop i) (ys.drop i) = true := by
  rw [List.drop_eq_nil_of_le (by omega)]; rfl
theorem findV_some {E : VT → VT → Bool} {ys : List VT} {key : VT} {step j : Nat} (hs : 0 < step) (h : findV E ys step key = some j) : ∃ k, ∃ h : j < ys.length, j = k * step ∧ E ys[j] key = true := by
  have := findE_by E key ys step hs ys.length 0 0 (by omega) (by omega) (fun q h1 h2 => absurd h2 (Nat.not_lt_zero _))
  unfold findV at h
  rw [h] at this
  rcases this with ⟨e, _⟩ | ⟨k, hk, e, he, _⟩
  · exact absurd e (by simp)
  · have ej : j = k * step := by exact Int.ofNat_inj.1 e
    subst ej
    exact ⟨k, hk, rfl, he⟩
theorem findR_none {E : VT → VT → Bool} {ys : List VT} {key : VT} {step : Nat} (h : findV E ys step key = none) : findR E ys step key = -1 := by unfold findR; rw [h]
theorem findR_some {E : VT → VT → Bool} {ys : List VT} {key : VT} {step j : Nat} (h : findV E ys step key = some j) : findR E ys step key = (j : Int) := by unfold findR; rw [h]
set_option maxRecDepth 100000 in
set_option maxHeartbeats 1000000 in
theorem teNum (a0 : Int) (a1 : Bool) (a2 : List Int) (a3 : Int) (a4 : ByteArray) (xs : List VT) (b0 : Int) (b1 : Bool) (b2 : List Int) (b3 : Int) (b4 : ByteArray) (ys : List VT) (A2 : Option Addr) (c2 : Nat) (A5 : Option Addr) (c5 : Nat) (B2 : Option Addr) (d2 : Nat) (B5 : Option Addr) (d5 : Nat) (w : World) (H1 : Hid (VR w (.agg #[.int .i64 a0, .bool a1, .slice A2 a2.length c2, .int .u64 a3, .string a4, .slice A5 xs.length c5]) ⟨a0, a1, a2, a3, a4, xs⟩)) (H2 : Hid (VR w (.agg #[.int .i64 b0, .bool b1, .slice B2 b2.length d2, .int .u64 b3, .string b4, .slice B5 ys.length d5]) ⟨b0, b1, b2, b3, b4, ys⟩)) (hn1 : isNum ⟨a0, a1, a2, a3, a4, xs⟩ = true) (hn2 : isNum ⟨b0, b1, b2, b3, b4, ys⟩ = true) (l1 : Leaf ⟨a0, a1, a2, a3, a4, xs⟩) (l2 : Leaf ⟨b0, b1, b2, b3, b4, ys⟩) : Calls Tryz.prog 30 #[.agg #[.int .i64 a0, .bool a1, .slice A2 a2.length c2, .int .u64 a3, .string a4, .slice A5 xs.length c5], .agg #[.int .i64 b0, .bool b1, .slice B2 b2.length d2, .int .u64 b3, .string b4, .slice B5 ys.length d5]] w fun e w' => e = .returned (.bool (ncmp ⟨a0, a1, a2, a3, a4, xs⟩ ⟨b0, b1, b2, b3, b4, ys⟩ == 0)) ∧ Below w.heap.size w w' := by
  have HN1 : Hid (∀ W, Below w.heap.size w W → Calls Tryz.prog 31 #[.agg #[.int .i64 a0, .bool a1, .slice A2 a2.length c2, .int .u64 a3, .string a4, .slice A5 xs.length c5]] W fun e W' => e = .returned (.bool true) ∧ Below W.heap.size W W') := Lib.hid fun W hW => by have h := number_c _ ⟨a0, a1, a2, a3, a4, xs⟩ W (H1.out.below hW); rw [hn1] at h; exact h
  have HN2 : Hid (∀ W, Below w.heap.size w W → Calls Tryz.prog 31 #[.agg #[.int .i64 b0, .bool b1, .slice B2 b2.length d2, .int .u64 b3, .string b4, .slice B5 ys.length d5]] W fun e W' => e = .returned (.bool true) ∧ Below W.heap.size W W') := Lib.hid fun W hW => by have h := number_c _ ⟨b0, b1, b2, b3, b4, ys⟩ W (H2.out.below hW); rw [hn2] at h; exact h
  obtain ⟨W, hW⟩ : ∃ W, W = (w.alloc (.cells #[.int .i64 a0, .bool a1, .slice A2 a2.length c2, .int .u64 a3, .string a4, .slice A5 xs.length c5] 26)).alloc (.cells #[.int .i64 b0, .bool b1, .slice B2 b2.length d2, .int .u64 b3, .string b4, .slice B5 ys.length d5] 26) := ⟨_, rfl⟩
  have HT : Hid (TB w #[.int .i64 a0, .bool a1, .slice A2 a2.length c2, .int .u64 a3, .string a4, .slice A5 xs.length c5] #[.int .i64 b0, .bool b1, .slice B2 b2.length d2, .int .u64 b3, .string b4, .slice B5 ys.length d5] W) := by rw [hW]; exact Lib.hid (tb_start w _ _)
  have HC : Hid (∀ W, Below w.heap.size w W → Calls Tryz.prog 33 #[.agg #[.int .i64 a0, .bool a1, .slice A2 a2.length c2, .int .u64 a3, .string a4, .slice A5 xs.length c5], .agg #[.int .i64 b0, .bool b1, .slice B2 b2.length d2, .int .u64 b3, .string b4, .slice B5 ys.length d5]] W fun e W' => e = .returned (.int .i64 (ncmp ⟨a0, a1, a2, a3, a4, xs⟩ ⟨b0, b1, b2, b3, b4, ys⟩)) ∧ Below W.heap.size W W') := Lib.hid fun W hW => cmpNumbers_c _ _ _ _ W (H1.out.below hW) (H2.out.below hW) l1 l2 hn1 hn2
  obtain ⟨r, hr⟩ : ∃ r, ncmp ⟨a0, a1, a2, a3, a4, xs⟩ ⟨b0, b1, b2, b3, b4, ys⟩ = r := ⟨_, rfl⟩
  rw [hr] at HC ⊢
  clear hr l1 l2 hn1 hn2 H1 H2
  go_enter Tryz.func30, Tryz.ntmps30
  go_wp2_with fail
  rw [← hW]
  clear hW
  obtain ⟨x0, x1, x2, x3, x4, x5⟩ := cells6 HT.out.b1
  obtain ⟨y0, y1, y2, y3, y4, y5⟩ := cells6 HT.out.b2
  go_wp2_with (first
    | (go_at_call 31; (with_reducible refine (HN1.out _ HT.out.low).mono ?_); rintro e w1 ⟨rfl, hbw⟩; (replace HT := Lib.hid (HT.out.below hbw)); clear x0 x1 x2 x3 x4 x5 y0 y1 y2 y3 y4 y5; obtain ⟨x0, x1, x2, x3, x4, x5⟩ := cells6 HT.out.b1; obtain ⟨y0, y1, y2, y3, y4, y5⟩ := cells6 HT.out.b2; clear hbw)
    | (go_at_call 31; (with_reducible refine (HN2.out _ HT.out.low).mono ?_); rintro e w1 ⟨rfl, hbw⟩; (replace HT := Lib.hid (HT.out.below hbw)); clear x0 x1 x2 x3 x4 x5 y0 y1 y2 y3 y4 y5; obtain ⟨x0, x1, x2, x3, x4, x5⟩ := cells6 HT.out.b1; obtain ⟨y0, y1, y2, y3, y4, y5⟩ := cells6 HT.out.b2; clear hbw)
    | (go_at_call 33; (with_reducible refine (HC.out _ HT.out.low).mono ?_); rintro e w1 ⟨rfl, hbw⟩; (replace HT := Lib.hid (HT.out.below hbw)); clear x0 x1 x2 x3 x4 x5 y0 y1 y2 y3 y4 y5; obtain ⟨x0, x1, x2, x3, x4, x5⟩ := cells6 HT.out.b1; obtain ⟨y0, y1, y2, y3, y4, y5⟩ := cells6 HT.out.b2; clear hbw))
  go_ret
  exact ⟨rfl, HT.out.low⟩
set_option maxRecDepth 100000 in
set_option maxHeartbeats 1000000 in
theorem teKindA (a0 : Int) (a1 : Bool) (a2 : List Int) (a3 : Int) (a4 : ByteArray) (xs : List VT) (b0 : Int) (b1 : Bool) (b2 : List Int) (b3 : Int) (b4 : ByteArray) (ys : List VT) (A2 : Option Addr) (c2 : Nat) (A5 : Option Addr) (c5 : Nat) (B2 : Option Addr) (d2 : Nat) (B5 : Option Addr) (d5 : Nat) (w : World) (H1 : Hid (VR w (.agg #[.int .i64 a0, .bool a1, .slice A2 a2.length c2, .int .u64 a3, .string a4, .slice A5 xs.length c5]) ⟨a0, a1, a2, a3, a4, xs⟩)) (H2 : Hid (VR w (.agg #[.int .i64 b0, .bool b1, .slice B2 b2.length d2, .int .u64 b3, .string b4, .slice B5 ys.length d5]) ⟨b0, b1, b2, b3, b4, ys⟩)) (hn1 : isNum ⟨a0, a1, a2, a3, a4, xs⟩ = false) (en : (a0 == b0) = false) : Calls Tryz.prog 30 #[.agg #[.int .i64 a0, .bool a1, .slice A2 a2.length c2, .int .u64 a3, .string a4, .slice A5 xs.length c5], .agg #[.int .i64 b0, .bool b1, .slice B2 b2.length d2, .int .u64 b3, .string b4, .slice B5 ys.length d5]] w fun e w' => e = .returned (.bool false) ∧ Below w.heap.size w w' := by
  have HN1 : Hid (∀ W, Below w.heap.size w W → Calls Tryz.prog 31 #[.agg #[.int .i64 a0, .bool a1, .slice A2 a2.length c2, .int .u64 a3, .string a4, .slice A5 xs.length c5]] W fun e W' => e = .returned (.bool false) ∧ Below W.heap.size W W') := Lib.hid fun W hW => by have h := number_c _ ⟨a0, a1, a2, a3, a4, xs⟩ W (H1.out.below hW); rw [hn1] at h; exact h
  obtain ⟨W, hW⟩ : ∃ W, W = (w.alloc (.cells #[.int .i64 a0, .bool a1, .slice A2 a2.length c2, .int .u64 a3, .string a4, .slice A5 xs.length c5] 26)).alloc (.cells #[.int .i64 b0, .bool b1, .slice B2 b2.length d2, .int .u64 b3, .string b4, .slice B5 ys.length d5] 26) := ⟨_, rfl⟩
  have HT : Hid (TB w #[.int .i64 a0, .bool a1, .slice A2 a2.length c2, .int .u64 a3, .string a4, .slice A5 xs.length c5] #[.int .i64 b0, .bool b1, .slice B2 b2.length d2, .int .u64 b3, .string b4, .slice B5 ys.length d5] W) := by rw [hW]; exact Lib.hid (tb_start w _ _)
  clear hn1 H1 H2
  go_enter Tryz.func30, Tryz.ntmps30
  go_wp2_with fail
  rw [← hW]
  clear hW
  obtain ⟨x0, x1, x2, x3, x4, x5⟩ := cells6 HT.out.b1
  obtain ⟨y0, y1, y2, y3, y4, y5⟩ := cells6 HT.out.b2
  go_wp2_with (first | (go_at_call 31; (with_reducible refine (HN1.out _ HT.out.low).mono ?_); rintro e w1 ⟨rfl, hbw⟩; (replace HT := Lib.hid (HT.out.below hbw)); clear x0 x1 x2 x3 x4 x5 y0 y1 y2 y3 y4 y5; obtain ⟨x0, x1, x2, x3, x4, x5⟩ := cells6 HT.out.b1; obtain ⟨y0, y1, y2, y3, y4, y5⟩ := cells6 HT.out.b2; clear hbw))
  go_ret
  exact ⟨rfl, HT.out.low⟩
set_option maxRecDepth 100000 in
set_option maxHeartbeats 1000000 in
theorem teKindB (a0 : Int) (a1 : Bool) (a2 : List Int) (a3 : Int) (a4 : ByteArray) (xs : List VT) (b0 : Int) (b1 : Bool) (b2 : List Int) (b3 : Int) (b4 : ByteArray) (ys : List VT) (A2 : Option Addr) (c2 : Nat) (A5 : Option Addr) (c5 : Nat) (B2 : Option Addr) (d2 : Nat) (B5 : Option Addr) (d5 : Nat) (w : World) (H1 : Hid (VR w (.agg #[.int .i64 a0, .bool a1, .slice A2 a2.length c2, .int .u64 a3, .string a4, .slice A5 xs.length c5]) ⟨a0, a1, a2, a3, a4, xs⟩)) (H2 : Hid (VR w (.agg #[.int .i64 b0, .bool b1, .slice B2 b2.length d2, .int .u64 b3, .string b4, .slice B5 ys.length d5]) ⟨b0, b1, b2, b3, b4, ys⟩)) (hn1 : isNum ⟨a0, a1, a2, a3, a4, xs⟩ = true) (hn2 : isNum ⟨b0, b1, b2, b3, b4, ys⟩ = false) (en : (a0 == b0) = false) : Calls Tryz.prog 30 #[.agg #[.int .i64 a0, .bool a1, .slice A2 a2.length c2, .int .u64 a3, .string a4, .slice A5 xs.length c5], .agg #[.int .i64 b0, .bool b1, .slice B2 b2.length d2, .int .u64 b3, .string b4, .slice B5 ys.length d5]] w fun e w' => e = .returned (.bool false) ∧ Below w.heap.size w w' := by
  have HN1 : Hid (∀ W, Below w.heap.size w W → Calls Tryz.prog 31 #[.agg #[.int .i64 a0, .bool a1, .slice A2 a2.length c2, .int .u64 a3, .string a4, .slice A5 xs.length c5]] W fun e W' => e = .returned (.bool true) ∧ Below W.heap.size W W') := Lib.hid fun W hW => by have h := number_c _ ⟨a0, a1, a2, a3, a4, xs⟩ W (H1.out.below hW); rw [hn1] at h; exact h
  have HN2 : Hid (∀ W, Below w.heap.size w W → Calls Tryz.prog 31 #[.agg #[.int .i64 b0, .bool b1, .slice B2 b2.length d2, .int .u64 b3, .string b4, .slice B5 ys.length d5]] W fun e W' => e = .returned (.bool false) ∧ Below W.heap.size W W') := Lib.hid fun W hW => by have h := number_c _ ⟨b0, b1, b2, b3, b4, ys⟩ W (H2.out.below hW); rw [hn2] at h; exact h
  obtain ⟨W, hW⟩ : ∃ W, W = (w.alloc (.cells #[.int .i64 a0, .bool a1, .slice A2 a2.length c2, .int .u64 a3, .string a4, .slice A5 xs.length c5] 26)).alloc (.cells #[.int .i64 b0, .bool b1, .slice B2 b2.length d2, .int .u64 b3, .string b4, .slice B5 ys.length d5] 26) := ⟨_, rfl⟩
  have HT : Hid (TB w #[.int .i64 a0, .bool a1, .slice A2 a2.length c2, .int .u64 a3, .string a4, .slice A5 xs.length c5] #[.int .i64 b0, .bool b1, .slice B2 b2.length d2, .int .u64 b3, .string b4, .slice B5 ys.length d5] W) := by rw [hW]; exact Lib.hid (tb_start w _ _)
  clear hn1 hn2 H1 H2
  go_enter Tryz.func30, Tryz.ntmps30
  go_wp2_with fail
  rw [← hW]
  clear hW
  obtain ⟨x0, x1, x2, x3, x4, x5⟩ := cells6 HT.out.b1
  obtain ⟨y0, y1, y2, y3, y4, y5⟩ := cells6 HT.out.b2
  go_wp2_with (first | (go_at_call 31; (with_reducible refine (HN1.out _ HT.out.low).mono ?_); rintro e w1 ⟨rfl, hbw⟩; (replace HT := Lib.hid (HT.out.below hbw)); clear x0 x1 x2 x3 x4 x5 y0 y1 y2 y3 y4 y5; obtain ⟨x0, x1, x2, x3, x4, x5⟩ := cells6 HT.out.b1; obtain ⟨y0, y1, y2, y3, y4, y5⟩ := cells6 HT.out.b2; clear hbw) | (go_at_call 31; (with_reducible refine (HN2.out _ HT.out.low).mono ?_); rintro e w1 ⟨rfl, hbw⟩; (replace HT := Lib.hid (HT.out.below hbw)); clear x0 x1 x2 x3 x4 x5 y0 y1 y2 y3 y4 y5; obtain ⟨x0, x1, x2, x3, x4, x5⟩ := cells6 HT.out.b1; obtain ⟨y0, y1, y2, y3, y4, y5⟩ := cells6 HT.out.b2; clear hbw))
  go_ret
  exact ⟨rfl, HT.out.low⟩
set_option maxRecDepth 100000 in
set_option maxHeartbeats 1000000 in
theorem teLen (a1 : Bool) (a2 : List Int) (a3 : Int) (a4 : ByteArray) (xs : List VT) (b0 : Int) (b1 : Bool) (b2 : List Int) (b3 : Int) (b4 : ByteArray) (ys : List VT) (A2 : Option Addr) (c2 : Nat) (A5 : Option Addr) (c5 : Nat) (B2 : Option Addr) (d2 : Nat) (B5 : Option Addr) (d5 : Nat) (w : World) (H1 : Hid (VR w (.agg #[.int .i64 b0, .bool a1, .slice A2 a2.length c2, .int .u64 a3, .string a4, .slice A5 xs.length c5]) ⟨b0, a1, a2, a3, a4, xs⟩)) (H2 : Hid (VR w (.agg #[.int .i64 b0, .bool b1, .slice B2 b2.length d2, .int .u64 b3, .string b4, .slice B5 ys.length d5]) ⟨b0, b1, b2, b3, b4, ys⟩)) (hn1 : isNum ⟨b0, a1, a2, a3, a4, xs⟩ = false) (en : ¬ (xs.length : Int) = ys.length) : Calls Tryz.prog 30 #[.agg #[.int .i64 b0, .bool a1, .slice A2 a2.length c2, .int .u64 a3, .string a4, .slice A5 xs.length c5], .agg #[.int .i64 b0, .bool b1, .slice B2 b2.length d2, .int .u64 b3, .string b4, .slice B5 ys.length d5]] w fun e w' => e = .returned (.bool false) ∧ Below w.heap.size w w' := by
  have HN1 : Hid (∀ W, Below w.heap.size w W → Calls Tryz.prog 31 #[.agg #[.int .i64 b0, .bool a1, .slice A2 a2.length c2, .int .u64 a3, .string a4, .slice A5 xs.length c5]] W fun e W' => e = .returned (.bool false) ∧ Below W.heap.size W W') := Lib.hid fun W hW => by have h := number_c _ ⟨b0, a1, a2, a3, a4, xs⟩ W (H1.out.below hW); rw [hn1] at h; exact h
  obtain ⟨W, hW⟩ : ∃ W, W = (w.alloc (.cells #[.int .i64 b0, .bool a1, .slice A2 a2.length c2, .int .u64 a3, .string a4, .slice A5 xs.length c5] 26)).alloc (.cells #[.int .i64 b0, .bool b1, .slice B2 b2.length d2, .int .u64 b3, .string b4, .slice B5 ys.length d5] 26) := ⟨_, rfl⟩
  have HT : Hid (TB w #[.int .i64 b0, .bool a1, .slice A2 a2.length c2, .int .u64 a3, .string a4, .slice A5 xs.length c5] #[.int .i64 b0, .bool b1, .slice B2 b2.length d2, .int .u64 b3, .string b4, .slice B5 ys.length d5] W) := by rw [hW]; exact Lib.hid (tb_start w _ _)
  have en2 : (((xs.length : Int)) == (ys.length : Int)) = false := by simpa using en
  clear hn1 H1 H2
  go_enter Tryz.func30, Tryz.ntmps30
  go_wp2_with fail
  rw [← hW]
  clear hW
  obtain ⟨x0, x1, x2, x3, x4, x5⟩ := cells6 HT.out.b1
  obtain ⟨y0, y1, y2, y3, y4, y5⟩ := cells6 HT.out.b2
  go_wp2_with (first | (go_at_call 31; (with_reducible refine (HN1.out _ HT.out.low).mono ?_); rintro e w1 ⟨rfl, hbw⟩; (replace HT := Lib.hid (HT.out.below hbw)); clear x0 x1 x2 x3 x4 x5 y0 y1 y2 y3 y4 y5; obtain ⟨x0, x1, x2, x3, x4, x5⟩ := cells6 HT.out.b1; obtain ⟨y0, y1, y2, y3, y4, y5⟩ := cells6 HT.out.b2; clear hbw))
  go_ret
  exact ⟨rfl, HT.out.low⟩
set_option maxRecDepth 100000 in
set_option maxHeartbeats 1000000 in
theorem teNone (a1 : Bool) (a2 : List Int) (a3 : Int) (a4 : ByteArray) (xs : List VT) (b0 : Int) (b1 : Bool) (b2 : List Int) (b3 : Int) (b4 : ByteArray) (ys : List VT) (A2 : Option Addr) (c2 : Nat) (A5 : Option Addr) (c5 : Nat) (B2 : Option Addr) (d2 : Nat) (B5 : Option Addr) (d5 : Nat) (w : World) (H1 : Hid (VR w (.agg #[.int .i64 b0, .bool a1, .slice A2 a2.length c2, .int .u64 a3, .string a4, .slice A5 xs.length c5]) ⟨b0, a1, a2, a3, a4, xs⟩)) (H2 : Hid (VR w (.agg #[.int .i64 b0, .bool b1, .slice B2 b2.length d2, .int .u64 b3, .string b4, .slice B5 ys.length d5]) ⟨b0, b1, b2, b3, b4, ys⟩)) (hn1 : isNum ⟨b0, a1, a2, a3, a4, xs⟩ = false) (ek : (b0 == 0) = true) (el : (xs.length : Int) = ys.length) : Calls Tryz.prog 30 #[.agg #[.int .i64 b0, .bool a1, .slice A2 a2.length c2, .int .u64 a3, .string a4, .slice A5 xs.length c5], .agg #[.int .i64 b0, .bool b1, .slice B2 b2.length d2, .int .u64 b3, .string b4, .slice B5 ys.length d5]] w fun e w' => e = .returned (.bool true) ∧ Below w.heap.size w w' := by
  have HN1 : Hid (∀ W, Below w.heap.size w W → Calls Tryz.prog 31 #[.agg #[.int .i64 b0, .bool a1, .slice A2 a2.length c2, .int .u64 a3, .string a4, .slice A5 xs.length c5]] W fun e W' => e = .returned (.bool false) ∧ Below W.heap.size W W') := Lib.hid fun W hW => by have h := number_c _ ⟨b0, a1, a2, a3, a4, xs⟩ W (H1.out.below hW); rw [hn1] at h; exact h
  obtain ⟨W, hW⟩ : ∃ W, W = (w.alloc (.cells #[.int .i64 b0, .bool a1, .slice A2 a2.length c2, .int .u64 a3, .string a4, .slice A5 xs.length c5] 26)).alloc (.cells #[.int .i64 b0, .bool b1, .slice B2 b2.length d2, .int .u64 b3, .string b4, .slice B5 ys.length d5] 26) := ⟨_, rfl⟩
  have HT : Hid (TB w #[.int .i64 b0, .bool a1, .slice A2 a2.length c2, .int .u64 a3, .string a4, .slice A5 xs.length c5] #[.int .i64 b0, .bool b1, .slice B2 b2.length d2, .int .u64 b3, .string b4, .slice B5 ys.length d5] W) := by rw [hW]; exact Lib.hid (tb_start w _ _)
  clear hn1 H1 H2
  go_enter Tryz.func30, Tryz.ntmps30
  go_wp2_with fail
  rw [← hW]
  clear hW
  obtain ⟨x0, x1, x2, x3, x4, x5⟩ := cells6 HT.out.b1
  obtain ⟨y0, y1, y2, y3, y4, y5⟩ := cells6 HT.out.b2
  go_wp2_with (first | (go_at_call 31; (with_reducible refine (HN1.out _ HT.out.low).mono ?_); rintro e w1 ⟨rfl, hbw⟩; (replace HT := Lib.hid (HT.out.below hbw)); clear x0 x1 x2 x3 x4 x5 y0 y1 y2 y3 y4 y5; obtain ⟨x0, x1, x2, x3, x4, x5⟩ := cells6 HT.out.b1; obtain ⟨y0, y1, y2, y3, y4, y5⟩ := cells6 HT.out.b2; clear hbw))
  go_ret
  exact ⟨rfl, HT.out.low⟩
set_option maxRecDepth 100000 in
set_option maxHeartbeats 1000000 in
theorem teBool (a1 : Bool) (a2 : List Int) (a3 : Int) (a4 : ByteArray) (xs : List VT) (b0 : Int) (b1 : Bool) (b2 : List Int) (b3 : Int) (b4 : ByteArray) (ys : List VT) (A2 : Option Addr) (c2 : Nat) (A5 : Option Addr) (c5 : Nat) (B2 : Option Addr) (d2 : Nat) (B5 : Option Addr) (d5 : Nat) (w : World) (H1 : Hid (VR w (.agg #[.int .i64 b0, .bool a1, .slice A2 a2.length c2, .int .u64 a3, .string a4, .slice A5 xs.length c5]) ⟨b0, a1, a2, a3, a4, xs⟩)) (H2 : Hid (VR w (.agg #[.int .i64 b0, .bool b1, .slice B2 b2.length d2, .int .u64 b3, .string b4, .slice B5 ys.length d5]) ⟨b0, b1, b2, b3, b4, ys⟩)) (hn1 : isNum ⟨b0, a1, a2, a3, a4, xs⟩ = false) (ek : (b0 == 0) = false) (em : (b0 == 1) = true) (el : (xs.length : Int) = ys.length) : Calls Tryz.prog 30 #[.agg #[.int .i64 b0, .bool a1, .slice A2 a2.length c2, .int .u64 a3, .string a4, .slice A5 xs.length c5], .agg #[.int .i64 b0, .bool b1, .slice B2 b2.length d2, .int .u64 b3, .string b4, .slice B5 ys.length d5]] w fun e w' => e = .returned (.bool (a3 == b3)) ∧ Below w.heap.size w w' := by
  have HN1 : Hid (∀ W, Below w.heap.size w W → Calls Tryz.prog 31 #[.agg #[.int .i64 b0, .bool a1, .slice A2 a2.length c2, .int .u64 a3, .string a4, .slice A5 xs.length c5]] W fun e W' => e = .returned (.bool false) ∧ Below W.heap.size W W') := Lib.hid fun W hW => by have h := number_c _ ⟨b0, a1, a2, a3, a4, xs⟩ W (H1.out.below hW); rw [hn1] at h; exact h
  obtain ⟨W, hW⟩ : ∃ W, W = (w.alloc (.cells #[.int .i64 b0, .bool a1, .slice A2 a2.length c2, .int .u64 a3, .string a4, .slice A5 xs.length c5] 26)).alloc (.cells #[.int .i64 b0, .bool b1, .slice B2 b2.length d2, .int .u64 b3, .string b4, .slice B5 ys.length d5] 26) := ⟨_, rfl⟩
  have HT : Hid (TB w #[.int .i64 b0, .bool a1, .slice A2 a2.length c2, .int .u64 a3, .string a4, .slice A5 xs.length c5] #[.int .i64 b0, .bool b1, .slice B2 b2.length d2, .int .u64 b3, .string b4, .slice B5 ys.length d5] W) := by rw [hW]; exact Lib.hid (tb_start w _ _)
  clear hn1 H1 H2
  go_enter Tryz.func30, Tryz.ntmps30
  go_wp2_with fail
  rw [← hW]
  clear hW
  obtain ⟨x0, x1, x2, x3, x4, x5⟩ := cells6 HT.out.b1
  obtain ⟨y0, y1, y2, y3, y4, y5⟩ := cells6 HT.out.b2
  go_wp2_with (first | (go_at_call 31; (with_reducible refine (HN1.out _ HT.out.low).mono ?_); rintro e w1 ⟨rfl, hbw⟩; (replace HT := Lib.hid (HT.out.below hbw)); clear x0 x1 x2 x3 x4 x5 y0 y1 y2 y3 y4 y5; obtain ⟨x0, x1, x2, x3, x4, x5⟩ := cells6 HT.out.b1; obtain ⟨y0, y1, y2, y3, y4, y5⟩ := cells6 HT.out.b2; clear hbw))
  go_ret
  exact ⟨rfl, HT.out.low⟩
set_option maxRecDepth 100000 in
set_option maxHeartbeats 1000000 in
theorem teSet (a1 : Bool) (a2 : List Int) (a3 : Int) (a4 : ByteArray) (xs : List VT) (b0 : Int) (b1 : Bool) (b2 : List Int) (b3 : Int) (b4 : ByteArray) (ys : List VT) (A2 : Option Addr) (c2 : Nat) (A5 : Option Addr) (c5 : Nat) (B2 : Option Addr) (d2 : Nat) (B5 : Option Addr) (d5 : Nat) (w : World) (H1 : Hid (VR w (.agg #[.int .i64 b0, .bool a1, .slice A2 a2.length c2, .int .u64 a3, .string a4, .slice A5 xs.length c5]) ⟨b0, a1, a2, a3, a4, xs⟩)) (H2 : Hid (VR w (.agg #[.int .i64 b0, .bool b1, .slice B2 b2.length d2, .int .u64 b3, .string b4, .slice B5 ys.length d5]) ⟨b0, b1, b2, b3, b4, ys⟩)) (hn1 : isNum ⟨b0, a1, a2, a3, a4, xs⟩ = false) (E : VT → VT → Bool) (ek : (b0 == 0) = false) (em : (b0 == 1) = false) (e8 : (b0 == 8) = false) (e9 : (b0 == 9) = true) (el : (xs.length : Int) = ys.length) (HW : Hid (∀ W, Below w.heap.size w W → Calls Tryz.prog 66 #[.agg #[.int .i64 b0, .bool a1, .slice A2 a2.length c2, .int .u64 a3, .string a4, .slice A5 xs.length c5], .agg #[.int .i64 b0, .bool b1, .slice B2 b2.length d2, .int .u64 b3, .string b4, .slice B5 ys.length d5]] W fun e W' => e = .returned (.bool (xs.all (fun k => (findV E ys 1 k).isSome))) ∧ Below W.heap.size W W')) : Calls Tryz.prog 30 #[.agg #[.int .i64 b0, .bool a1, .slice A2 a2.length c2, .int .u64 a3, .string a4, .slice A5 xs.length c5], .agg #[.int .i64 b0, .bool b1, .slice B2 b2.length d2, .int .u64 b3, .string b4, .slice B5 ys.length d5]] w fun e w' => e = .returned (.bool (xs.all (fun k => (findV E ys 1 k).isSome))) ∧ Below w.heap.size w w' := by
  have HN1 : Hid (∀ W, Below w.heap.size w W → Calls Tryz.prog 31 #[.agg #[.int .i64 b0, .bool a1, .slice A2 a2.length c2, .int .u64 a3, .string a4, .slice A5 xs.length c5]] W fun e W' => e = .returned (.bool false) ∧ Below W.heap.size W W') := Lib.hid fun W hW => by have h := number_c _ ⟨b0, a1, a2, a3, a4, xs⟩ W (H1.out.below hW); rw [hn1] at h; exact h
  obtain ⟨W, hW⟩ : ∃ W, W = (w.alloc (.cells #[.int .i64 b0, .bool a1, .slice A2 a2.length c2, .int .u64 a3, .string a4, .slice A5 xs.length c5] 26)).alloc (.cells #[.int .i64 b0, .bool b1, .slice B2 b2.length d2, .int .u64 b3, .string b4, .slice B5 ys.length d5] 26) := ⟨_, rfl⟩
  have HT : Hid (TB w #[.int .i64 b0, .bool a1, .slice A2 a2.length c2, .int .u64 a3, .string a4, .slice A5 xs.length c5] #[.int .i64 b0, .bool b1, .slice B2 b2.length d2, .int .u64 b3, .string b4, .slice B5 ys.length d5] W) := by rw [hW]; exact Lib.hid (tb_start w _ _)
  obtain ⟨r, hr⟩ : ∃ r, xs.all (fun k => (findV E ys 1 k).isSome) = r := ⟨_, rfl⟩
  rw [hr] at HW ⊢
  clear hr hn1 H1 H2
  go_enter Tryz.func30, Tryz.ntmps30
  go_wp2_with fail
  rw [← hW]
  clear hW
  obtain ⟨x0, x1, x2, x3, x4, x5⟩ := cells6 HT.out.b1
  obtain ⟨y0, y1, y2, y3, y4, y5⟩ := cells6 HT.out.b2
  go_wp2_with (first | (go_at_call 31; (with_reducible refine (HN1.out _ HT.out.low).mono ?_); rintro e w1 ⟨rfl, hbw⟩; (replace HT := Lib.hid (HT.out.below hbw)); clear x0 x1 x2 x3 x4 x5 y0 y1 y2 y3 y4 y5; obtain ⟨x0, x1, x2, x3, x4, x5⟩ := cells6 HT.out.b1; obtain ⟨y0, y1, y2, y3, y4, y5⟩ := cells6 HT.out.b2; clear hbw) | (go_at_call 66; (with_reducible refine (HW.out _ HT.out.low).mono ?_); rintro e w1 ⟨rfl, hbw⟩; (replace HT := Lib.hid (HT.out.below hbw)); clear x0 x1 x2 x3 x4 x5 y0 y1 y2 y3 y4 y5; obtain ⟨x0, x1, x2, x3, x4, x5⟩ := cells6 HT.out.b1; obtain ⟨y0, y1, y2, y3, y4, y5⟩ := cells6 HT.out.b2; clear hbw))
  go_ret
  exact ⟨rfl, HT.out.low⟩
set_option maxRecDepth 100000 in
set_option maxHeartbeats 1000000 in
theorem teRest (a1 : Bool) (a2 : List Int) (a3 : Int) (a4 : ByteArray) (xs : List VT) (b0 : Int) (b1 : Bool) (b2 : List Int) (b3 : Int) (b4 : ByteArray) (ys : List VT) (A2 : Option Addr) (c2 : Nat) (A5 : Option Addr) (c5 : Nat) (B2 : Option Addr) (d2 : Nat) (B5 : Option Addr) (d5 : Nat) (w : World) (H1 : Hid (VR w (.agg #[.int .i64 b0, .bool a1, .slice A2 a2.length c2, .int .u64 a3, .string a4, .slice A5 xs.length c5]) ⟨b0, a1, a2, a3, a4, xs⟩)) (H2 : Hid (VR w (.agg #[.int .i64 b0, .bool b1, .slice B2 b2.length d2, .int .u64 b3, .string b4, .slice B5 ys.length d5]) ⟨b0, b1, b2, b3, b4, ys⟩)) (hn1 : isNum ⟨b0, a1, a2, a3, a4, xs⟩ = false) (E : VT → VT → Bool) (ek : (b0 == 0) = false) (em : (b0 == 1) = false) (e8 : (b0 == 8) = false) (e9 : (b0 == 9) = false) (ELN : Hid (xs.length = ys.length)) (el : (((xs.length : Int)) != (ys.length : Int)) = false) (hmany : xs.length ≤ 1000000) (g1 : kV.C w A5 xs.length xs) (g2 : kV.C w B5 ys.length ys) (HE : Hid (∀ W, Below w.heap.size w W → ∀ i (hi : i < xs.length) (hi2 : i < ys.length) u v', VR W u xs[i] → VR W v' ys[i] → Calls Tryz.prog 30 #[u, v'] W fun e W' => e = .returned (.bool (E xs[i] ys[i])) ∧ Below W.heap.size W W')) : Calls Tryz.prog 30 #[.agg #[.int .i64 b0, .bool a1, .slice A2 a2.length c2, .int .u64 a3, .string a4, .slice A5 xs.length c5], .agg #[.int .i64 b0, .bool b1, .slice B2 b2.length d2, .int .u64 b3, .string b4, .slice B5 ys.length d5]] w fun e w' => e = .returned (.bool (all2 E xs ys && a4 == b4)) ∧ Below w.heap.size w w' := by
  have HN1 : Hid (∀ W, Below w.heap.size w W → Calls Tryz.prog 31 #[.agg #[.int .i64 b0, .bool a1, .slice A2 a2.length c2, .int .u64 a3, .string a4, .slice A5 xs.length c5]] W fun e W' => e = .returned (.bool false) ∧ Below W.heap.size W W') := Lib.hid fun W hW => by have h := number_c _ ⟨b0, a1, a2, a3, a4, xs⟩ W (H1.out.below hW); rw [hn1] at h; exact h
  obtain ⟨W, hW⟩ : ∃ W, W = (w.alloc (.cells #[.int .i64 b0, .bool a1, .slice A2 a2.length c2, .int .u64 a3, .string a4, .slice A5 xs.length c5] 26)).alloc (.cells #[.int .i64 b0, .bool b1, .slice B2 b2.length d2, .int .u64 b3, .string b4, .slice B5 ys.length d5] 26) := ⟨_, rfl⟩
  have HT : Hid (TB w #[.int .i64 b0, .bool a1, .slice A2 a2.length c2, .int .u64 a3, .string a4, .slice A5 xs.length c5] #[.int .i64 b0, .bool b1, .slice B2 b2.length d2, .int .u64 b3, .string b4, .slice B5 ys.length d5] W) := by rw [hW]; exact Lib.hid (tb_start w _ _)
  have HK := Lib.hid (fun i hi => kid_at g1 i hi rfl)
  have HL := Lib.hid (fun i hi => kid_at g2 i hi rfl)
  clear hn1 H1 H2 g1 g2
  go_enter Tryz.func30, Tryz.ntmps30
  go_wp2_with fail
  rw [← hW]
  clear hW
  obtain ⟨x0, x1, x2, x3, x4, x5⟩ := cells6 HT.out.b1
  obtain ⟨y0, y1, y2, y3, y4, y5⟩ := cells6 HT.out.b2
  go_wp2_with (first | (go_at_call 31; (with_reducible refine (HN1.out _ HT.out.low).mono ?_); rintro e w1 ⟨rfl, hbw⟩; (replace HT := Lib.hid (HT.out.below hbw)); clear x0 x1 x2 x3 x4 x5 y0 y1 y2 y3 y4 y5; obtain ⟨x0, x1, x2, x3, x4, x5⟩ := cells6 HT.out.b1; obtain ⟨y0, y1, y2, y3, y4, y5⟩ := cells6 HT.out.b2; clear hbw))
  clear x0 x1 x2 x3 x4 x5 y0 y1 y2 y3 y4 y5
  go_loopw [7] (fun i wr => ∃ j : Nat, j ≤ xs.length ∧ i = .int .i64 (j : Int) ∧ Hid (all2 E xs ys = all2 E (xs.drop j) (ys.drop j)) ∧ Hid (TB w #[.int .i64 b0, .bool a1, .slice A2 a2.length c2, .int .u64 a3, .string a4, .slice A5 xs.length c5] #[.int .i64 b0, .bool b1, .slice B2 b2.length d2, .int .u64 b3, .string b4, .slice B5 ys.length d5] wr)) (fun i _ => xs.length - (intOf i).toNat)
  case atStart => exact ⟨0, Nat.zero_le _, rfl, Lib.hid rfl, HT⟩
  case round =>
    clear HT
    obtain ⟨j, hj, rfl, HQ, HT⟩ := hrel
    by_cases hlt : j < xs.length
    · have hlt2 : j < ys.length := by rw [← ELN.out]; exact hlt
      have hB := HT.out.low
      obtain ⟨bp, op, Cp, ep, Dp, fp, rfl, hbp, k0, k1, k2, k3, k4, k5, hVp⟩ := HK.out j hlt
      have x0 := (hB.cell (p := ⟨bp, op + j * 6, none⟩) hbp).trans k0
      have x1 := (hB.cell (p := ⟨bp, op + j * 6 + 1, none⟩) hbp).trans k1
      have x2 := (hB.cell (p := ⟨bp, op + j * 6 + 2, none⟩) hbp).trans k2
      have x3 := (hB.cell (p := ⟨bp, op + j * 6 + 3, none⟩) hbp).trans k3
      have x4 := (hB.cell (p := ⟨bp, op + j * 6 + 4, none⟩) hbp).trans k4
      have x5 := (hB.cell (p := ⟨bp, op + j * 6 + 5, none⟩) hbp).trans k5
      clear k0 k1 k2 k3 k4 k5
      obtain ⟨bq, oq, Cq, eq, Dq, fq, rfl, hbq, k0, k1, k2, k3, k4, k5, hVq⟩ := HL.out j hlt2
      have y0 := (hB.cell (p := ⟨bq, oq + j * 6, none⟩) hbq).trans k0
      have y1 := (hB.cell (p := ⟨bq, oq + j * 6 + 1, none⟩) hbq).trans k1
      have y2 := (hB.cell (p := ⟨bq, oq + j * 6 + 2, none⟩) hbq).trans k2
      have y3 := (hB.cell (p := ⟨bq, oq + j * 6 + 3, none⟩) hbq).trans k3
      have y4 := (hB.cell (p := ⟨bq, oq + j * 6 + 4, none⟩) hbq).trans k4
      have y5 := (hB.cell (p := ⟨bq, oq + j * 6 + 5, none⟩) hbq).trans k5
      clear k0 k1 k2 k3 k4 k5
      have z5 := (cells6 HT.out.b1).2.2.2.2.2
      have y9 := (cells6 HT.out.b2).2.2.2.2.2
      have HEj : Hid (∀ W, Below w.heap.size w W → Calls Tryz.prog 30 #[.agg #[.int .i64 xs[j].f0, .bool xs[j].f1, .slice Cp xs[j].f2.length ep, .int .u64 xs[j].f3, .string xs[j].f4, .slice Dp xs[j].f5.length fp], .agg #[.int .i64 ys[j].f0, .bool ys[j].f1, .slice Cq ys[j].f2.length eq, .int .u64 ys[j].f3, .string ys[j].f4, .slice Dq ys[j].f5.length fq]] W fun e W' => e = .returned (.bool (E xs[j] ys[j])) ∧ Below W.heap.size W W') := Lib.hid fun W hW => HE.out W hW j hlt hlt2 _ _ (hVp.below hW) (hVq.below hW)
      clear hVp hVq hB
      have HS := Lib.hid (all2_step E xs ys j hlt hlt2)
      obtain ⟨r, hr⟩ : ∃ r, E xs[j] ys[j] = r := ⟨_, rfl⟩
      rw [hr] at HEj HS
      clear hr
      go_upto_region 23 with fail
      go_region_held3 (fun W => ((W.cell? ⟨bp, op + j * 6, none⟩ = some (.int .i64 xs[j].f0) ∧ W.cell? ⟨bp, op + j * 6 + 1, none⟩ = some (.bool xs[j].f1) ∧ W.cell? ⟨bp, op + j * 6 + 2, none⟩ = some (.slice Cp xs[j].f2.length ep) ∧ W.cell? ⟨bp, op + j * 6 + 3, none⟩ = some (.int .u64 xs[j].f3) ∧ W.cell? ⟨bp, op + j * 6 + 4, none⟩ = some (.string xs[j].f4) ∧ W.cell? ⟨bp, op + j * 6 + 5, none⟩ = some (.slice Dp xs[j].f5.length fp)) ∧ (W.cell? ⟨bq, oq + j * 6, none⟩ = some (.int .i64 ys[j].f0) ∧ W.cell? ⟨bq, oq + j * 6 + 1, none⟩ = some (.bool ys[j].f1) ∧ W.cell? ⟨bq, oq + j * 6 + 2, none⟩ = some (.slice Cq ys[j].f2.length eq) ∧ W.cell? ⟨bq, oq + j * 6 + 3, none⟩ = some (.int .u64 ys[j].f3) ∧ W.cell? ⟨bq, oq + j * 6 + 4, none⟩ = some (.string ys[j].f4) ∧ W.cell? ⟨bq, oq + j * 6 + 5, none⟩ = some (.slice Dq ys[j].f5.length fq))) ∧ W.cell? ⟨w.heap.size, 5, none⟩ = some (.slice (some ⟨bp, op, none⟩) xs.length c5) ∧ W.cell? ⟨w.heap.size + 1, 5, none⟩ = some (.slice (some ⟨bq, oq, none⟩) ys.length d5)) (first | (with_reducible exact ⟨⟨⟨r0, r1, r2, r3, r4, r5⟩, ⟨s0, s1, s2, s3, s4, s5⟩⟩, q, p⟩) | (with_reducible exact ⟨⟨⟨x0, x1, x2, x3, x4, x5⟩, ⟨y0, y1, y2, y3, y4, y5⟩⟩, z5, y9⟩) | exact ⟨⟨⟨x0, x1, x2, x3, x4, x5⟩, ⟨y0, y1, y2, y3, y4, y5⟩⟩, z5, y9⟩) (first
        | (go_at_call 30; (with_reducible refine (HEj.out _ (by first | (with_reducible exact HT.out.low.drew) | exact HT.out.low.drew)).mono ?_); rintro e w1 ⟨rfl, hb1⟩; have HT1 : Hid (TB w #[.int .i64 b0, .bool a1, .slice A2 a2.length c2, .int .u64 a3, .string a4, .slice (some ⟨bp, op, none⟩) xs.length c5] #[.int .i64 b0, .bool b1, .slice B2 b2.length d2, .int .u64 b3, .string b4, .slice (some ⟨bq, oq, none⟩) ys.length d5] w1) := Lib.hid ((HT.out.below ((Below.refl _ _).drew)).below hb1); have hbwp := Nat.lt_of_lt_of_le hbp HT.out.low.size; have hbwq := Nat.lt_of_lt_of_le hbq HT.out.low.size; have r0 := (hb1.cell (p := ⟨bp, op + j * 6, none⟩) hbwp).trans x0; have r1 := (hb1.cell (p := ⟨bp, op + j * 6 + 1, none⟩) hbwp).trans x1; have r2 := (hb1.cell (p := ⟨bp, op + j * 6 + 2, none⟩) hbwp).trans x2; have r3 := (hb1.cell (p := ⟨bp, op + j * 6 + 3, none⟩) hbwp).trans x3; have r4 := (hb1.cell (p := ⟨bp, op + j * 6 + 4, none⟩) hbwp).trans x4; have r5 := (hb1.cell (p := ⟨bp, op + j * 6 + 5, none⟩) hbwp).trans x5; have s0 := (hb1.cell (p := ⟨bq, oq + j * 6, none⟩) hbwq).trans y0; have s1 := (hb1.cell (p := ⟨bq, oq + j * 6 + 1, none⟩) hbwq).trans y1; have s2 := (hb1.cell (p := ⟨bq, oq + j * 6 + 2, none⟩) hbwq).trans y2; have s3 := (hb1.cell (p := ⟨bq, oq + j * 6 + 3, none⟩) hbwq).trans y3; have s4 := (hb1.cell (p := ⟨bq, oq + j * 6 + 4, none⟩) hbwq).trans y4; have s5 := (hb1.cell (p := ⟨bq, oq + j * 6 + 5, none⟩) hbwq).trans y5; have q := (cells6 HT1.out.b1).2.2.2.2.2; have p := (cells6 HT1.out.b2).2.2.2.2.2; clear hb1))
      clear x0 x1 x2 x3 x4 x5 y0 y1 y2 y3 y4 y5 z5 y9 r0 r1 r2 r3 r4 r5 s0 s1 s2 s3 s4 s5 q p
      cases r
      · go_wp2
        go_ret
        exact ⟨by rw [HQ.out, HS.out]; rfl, HT1.out.low⟩
      · go_wp2
        go_roundw
        case rel =>
          exact ⟨j + 1, by omega, by go_num, Lib.hid (by rw [HQ.out, HS.out]; rfl), HT1⟩
        case measure => simp [intOf]; omega
    · have hjn : j = xs.length := by omega
      subst hjn
      have hall := HQ.out.trans (all2_end E xs ys xs.length (by omega))
      obtain ⟨x0, x1, x2, x3, x4, x5⟩ := cells6 HT.out.b1
      obtain ⟨y0, y1, y2, y3, y4, y5⟩ := cells6 HT.out.b2
      go_wp2
      go_ret
      exact ⟨by rw [hall, Bool.true_and]; first | rfl | (rw [← beqL]; rfl), HT.out.low⟩
def pairQ (E : VT → VT → Bool) (ys : List VT) (k v : VT) : Bool := match findV E ys 2 k with | none => false | some j => (match ys[j + 1]? with | none => false | some u => E v u)
theorem pair_none {E : VT → VT → Bool} {ys : List VT} {k v : VT} (h : findV E ys 2 k = none) : pairQ E ys k v = false := by unfold pairQ; rw [h]
theorem pair_some {E : VT → VT → Bool} {ys : List VT} {k v : VT} {j : Nat} (h : findV E ys 2 k = some j) (hj : j + 1 < ys.length) : pairQ E ys k v = E v ys[j + 1] := by unfold pairQ; rw [h]; simp only; rw [List.getElem?_eq_getElem hj]
theorem dictBy_go (e : VT → VT → Bool) (ys xs : List VT) (i : Nat) (h : i + 1 < xs.length) : dictBy e ys (xs.drop i) = (pairQ e ys xs[i] xs[i + 1] && dictBy e ys (xs.drop (i + 2))) := dictBy_step e ys xs i h
set_option maxRecDepth 100000 in
set_option maxHeartbeats 1000000 in
theorem teDict (a1 : Bool) (a2 : List Int) (a3 : Int) (a4 : ByteArray) (xs : List VT) (b0 : Int) (b1 : Bool) (b2 : List Int) (b3 : Int) (b4 : ByteArray) (ys : List VT) (A2 : Option Addr) (c2 : Nat) (A5 : Option Addr) (c5 : Nat) (B2 : Option Addr) (d2 : Nat) (B5 : Option Addr) (d5 : Nat) (w : World) (H1 : Hid (VR w (.agg #[.int .i64 b0, .bool a1, .slice A2 a2.length c2, .int .u64 a3, .string a4, .slice A5 xs.length c5]) ⟨b0, a1, a2, a3, a4, xs⟩)) (H2 : Hid (VR w (.agg #[.int .i64 b0, .bool b1, .slice B2 b2.length d2, .int .u64 b3, .string b4, .slice B5 ys.length d5]) ⟨b0, b1, b2, b3, b4, ys⟩)) (hn1 : isNum ⟨b0, a1, a2, a3, a4, xs⟩ = false) (E : VT → VT → Bool) (ek : (b0 == 0) = false) (em : (b0 == 1) = false) (e8 : (b0 == 8) = true) (ELN : Hid (xs.length = ys.length ∧ xs.length % 2 = 0)) (el : (((xs.length : Int)) != (ys.length : Int)) = false) (hmany : xs.length ≤ 1000000) (hmany2 : ys.length ≤ 1000000) (g1 : kV.C w A5 xs.length xs) (g2 : kV.C w B5 ys.length ys) (HF : Hid (∀ W, Below w.heap.size w W → ∀ i (hi : i < xs.length) u, VR W u xs[i] → Calls Tryz.prog 53 #[.slice B5 ys.length d5, .int .i64 2, u] W fun e W' => e = .returned (.int .i64 (findR E ys 2 xs[i])) ∧ Below W.heap.size W W')) (HE : Hid (∀ W, Below w.heap.size w W → ∀ i (hi : i < xs.length) j (hj : j < ys.length) u v', VR W u xs[i] → VR W v' ys[j] → Calls Tryz.prog 30 #[u, v'] W fun e W' => e = .returned (.bool (E xs[i] ys[j])) ∧ Below W.heap.size W W')) : Calls Tryz.prog 30 #[.agg #[.int .i64 b0, .bool a1, .slice A2 a2.length c2, .int .u64 a3, .string a4, .slice A5 xs.length c5], .agg #[.int .i64 b0, .bool b1, .slice B2 b2.length d2, .int .u64 b3, .string b4, .slice B5 ys.length d5]] w fun e w' => e = .returned (.bool (dictBy E ys xs)) ∧ Below w.heap.size w w' := by
  have HN1 : Hid (∀ W, Below w.heap.size w W → Calls Tryz.prog 31 #[.agg #[.int .i64 b0, .bool a1, .slice A2 a2.length c2, .int .u64 a3, .string a4, .slice A5 xs.length c5]] W fun e W' => e = .returned (.bool false) ∧ Below W.heap.size W W') := Lib.hid fun W hW => by have h := number_c _ ⟨b0, a1, a2, a3, a4, xs⟩ W (H1.out.below hW); rw [hn1] at h; exact h
  obtain ⟨W, hW⟩ : ∃ W, W = (w.alloc (.cells #[.int .i64 b0, .bool a1, .slice A2 a2.length c2, .int .u64 a3, .string a4, .slice A5 xs.length c5] 26)).alloc (.cells #[.int .i64 b0, .bool b1, .slice B2 b2.length d2, .int .u64 b3, .string b4, .slice B5 ys.length d5] 26) := ⟨_, rfl⟩
  have HT : Hid (TB w #[.int .i64 b0, .bool a1, .slice A2 a2.length c2, .int .u64 a3, .string a4, .slice A5 xs.length c5] #[.int .i64 b0, .bool b1, .slice B2 b2.length d2, .int .u64 b3, .string b4, .slice B5 ys.length d5] W) := by rw [hW]; exact Lib.hid (tb_start w _ _)
  have HK := Lib.hid (fun i hi => kid_at g1 i hi rfl)
  have HL := Lib.hid (fun i hi => kid_at g2 i hi rfl)
  clear hn1 H1 H2 g1 g2
  go_enter Tryz.func30, Tryz.ntmps30
  go_wp2_with fail
  rw [← hW]
  clear hW
  obtain ⟨x0, x1, x2, x3, x4, x5⟩ := cells6 HT.out.b1
  obtain ⟨y0, y1, y2, y3, y4, y5⟩ := cells6 HT.out.b2
  go_wp2_with (first | (go_at_call 31; (with_reducible refine (HN1.out _ HT.out.low).mono ?_); rintro e w1 ⟨rfl, hbw⟩; (replace HT := Lib.hid (HT.out.below hbw)); clear x0 x1 x2 x3 x4 x5 y0 y1 y2 y3 y4 y5; obtain ⟨x0, x1, x2, x3, x4, x5⟩ := cells6 HT.out.b1; obtain ⟨y0, y1, y2, y3, y4, y5⟩ := cells6 HT.out.b2; clear hbw))
  clear x0 x1 x2 x3 x4 x5 y0 y1 y2 y3 y4 y5
  go_loopw [5] (fun i wr => ∃ j : Nat, j ≤ xs.length ∧ i = .int .i64 (j : Int) ∧ Hid (j % 2 = 0) ∧ Hid (dictBy E ys xs = dictBy E ys (xs.drop j)) ∧ Hid (TB w #[.int .i64 b0, .bool a1, .slice A2 a2.length c2, .int .u64 a3, .string a4, .slice A5 xs.length c5] #[.int .i64 b0, .bool b1, .slice B2 b2.length d2, .int .u64 b3, .string b4, .slice B5 ys.length d5] wr)) (fun i _ => xs.length - (intOf i).toNat)
  case atStart => exact ⟨0, Nat.zero_le _, rfl, Lib.hid rfl, Lib.hid rfl, HT⟩
  case round =>
    clear HT
    obtain ⟨j, hj, rfl, HP, HQ, HT⟩ := hrel
    by_cases hlt : j + 1 < xs.length
    · have hB := HT.out.low
      have hjl : j < xs.length := by omega
      obtain ⟨bp, op, Cp, ep, Dp, fp, rfl, hbp, k0, k1, k2, k3, k4, k5, hVp⟩ := HK.out j hjl
      have x0 := (hB.cell (p := ⟨bp, op + j * 6, none⟩) hbp).trans k0
      have x1 := (hB.cell (p := ⟨bp, op + j * 6 + 1, none⟩) hbp).trans k1
      have x2 := (hB.cell (p := ⟨bp, op + j * 6 + 2, none⟩) hbp).trans k2
      have x3 := (hB.cell (p := ⟨bp, op + j * 6 + 3, none⟩) hbp).trans k3
      have x4 := (hB.cell (p := ⟨bp, op + j * 6 + 4, none⟩) hbp).trans k4
      have x5 := (hB.cell (p := ⟨bp, op + j * 6 + 5, none⟩) hbp).trans k5
      clear k0 k1 k2 k3 k4 k5
      have z5 := (cells6 HT.out.b1).2.2.2.2.2
      have y9 := (cells6 HT.out.b2).2.2.2.2.2
      have HFj : Hid (∀ W, Below w.heap.size w W → Calls Tryz.prog 53 #[.slice B5 ys.length d5, .int .i64 2, .agg #[.int .i64 xs[j].f0, .bool xs[j].f1, .slice Cp xs[j].f2.length ep, .int .u64 xs[j].f3, .string xs[j].f4, .slice Dp xs[j].f5.length fp]] W fun e W' => e = .returned (.int .i64 (findR E ys 2 xs[j])) ∧ Below W.heap.size W W') := Lib.hid fun W hW => HF.out W hW j (by omega) _ (hVp.below hW)
      clear hVp hB
      have HS := Lib.hid (dictBy_go E ys xs j hlt)
      obtain ⟨r, hr⟩ : ∃ r, findR E ys 2 xs[j] = r := ⟨_, rfl⟩
      have HR := Lib.hid hr
      rw [hr] at HFj
      clear hr
      go_upto_region 14 with fail
      go_region_held3 (fun W => ((W.cell? ⟨bp, op + j * 6, none⟩ = some (.int .i64 xs[j].f0) ∧ W.cell? ⟨bp, op + j * 6 + 1, none⟩ = some (.bool xs[j].f1) ∧ W.cell? ⟨bp, op + j * 6 + 2, none⟩ = some (.slice Cp xs[j].f2.length ep) ∧ W.cell? ⟨bp, op + j * 6 + 3, none⟩ = some (.int .u64 xs[j].f3) ∧ W.cell? ⟨bp, op + j * 6 + 4, none⟩ = some (.string xs[j].f4) ∧ W.cell? ⟨bp, op + j * 6 + 5, none⟩ = some (.slice Dp xs[j].f5.length fp))) ∧ W.cell? ⟨w.heap.size, 5, none⟩ = some (.slice (some ⟨bp, op, none⟩) xs.length c5) ∧ W.cell? ⟨w.heap.size + 1, 5, none⟩ = some (.slice B5 ys.length d5)) (first | (with_reducible exact ⟨⟨r0, r1, r2, r3, r4, r5⟩, q, p⟩) | (with_reducible exact ⟨⟨x0, x1, x2, x3, x4, x5⟩, z5, y9⟩) | exact ⟨⟨x0, x1, x2, x3, x4, x5⟩, z5, y9⟩) (first
        | (go_at_call 53; (with_reducible refine (HFj.out _ (by first | (with_reducible exact HT.out.low.drew) | exact HT.out.low.drew)).mono ?_); rintro e w1 ⟨rfl, hb1⟩; have HT1 : Hid (TB w #[.int .i64 b0, .bool a1, .slice A2 a2.length c2, .int .u64 a3, .string a4, .slice (some ⟨bp, op, none⟩) xs.length c5] #[.int .i64 b0, .bool b1, .slice B2 b2.length d2, .int .u64 b3, .string b4, .slice B5 ys.length d5] w1) := Lib.hid ((HT.out.below ((Below.refl _ _).drew)).below hb1); have hbwp := Nat.lt_of_lt_of_le hbp HT.out.low.size; have r0 := (hb1.cell (p := ⟨bp, op + j * 6, none⟩) hbwp).trans x0; have r1 := (hb1.cell (p := ⟨bp, op + j * 6 + 1, none⟩) hbwp).trans x1; have r2 := (hb1.cell (p := ⟨bp, op + j * 6 + 2, none⟩) hbwp).trans x2; have r3 := (hb1.cell (p := ⟨bp, op + j * 6 + 3, none⟩) hbwp).trans x3; have r4 := (hb1.cell (p := ⟨bp, op + j * 6 + 4, none⟩) hbwp).trans x4; have r5 := (hb1.cell (p := ⟨bp, op + j * 6 + 5, none⟩) hbwp).trans x5; have q := (cells6 HT1.out.b1).2.2.2.2.2; have p := (cells6 HT1.out.b2).2.2.2.2.2; clear hb1))
      clear x0 x1 x2 x3 x4 x5 z5 y9 r0 r1 r2 r3 r4 r5 q p HT
      obtain ⟨o, ho⟩ : ∃ o, findV E ys 2 xs[j] = o := ⟨_, rfl⟩
      cases o with
      | none =>
        obtain rfl : r = -1 := by rw [← HR.out]; exact findR_none ho
        have HZ := Lib.hid (pair_none (v := xs[j + 1]) ho)
        clear ho
        go_upto_region 15 with fail
        go_region
        go_wp2
        go_ret
        exact ⟨by rw [HQ.out, HS.out, HZ.out]; rfl, HT1.out.low.drew⟩
      | some m =>
        obtain rfl : r = (m : Int) := by rw [← HR.out]; exact findR_some ho
        obtain ⟨m2, hm, hm2, hq⟩ := findV_some (by decide) ho
        have hm1 : m + 1 < ys.length := by have := ELN.out; omega
        have HZ := Lib.hid (pair_some (v := xs[j + 1]) ho hm1)
        clear ho hm2 hq hm
        have hB := HT1.out.low
        have hlt' := hlt
        obtain ⟨j1, hj1⟩ : ∃ j1, j1 = j + 1 := ⟨_, rfl⟩
        obtain ⟨m1, hmm⟩ : ∃ m1, m1 = m + 1 := ⟨_, rfl⟩
        have hjx : j1 < xs.length := by omega
        have hmx : m1 < ys.length := by omega
        have e1 : (j : Int) + 1 = (j1 : Int) := by omega
        have e2 : (m : Int) + 1 = (m1 : Int) := by omega
        obtain ⟨bs, os, Cs, es, Ds, fs, esx, hbs, k0, k1, k2, k3, k4, k5, hVs⟩ := HK.out j1 hjx
        have x0 := (hB.cell (p := ⟨bs, os + j1 * 6, none⟩) hbs).trans k0
        have x1 := (hB.cell (p := ⟨bs, os + j1 * 6 + 1, none⟩) hbs).trans k1
        have x2 := (hB.cell (p := ⟨bs, os + j1 * 6 + 2, none⟩) hbs).trans k2
        have x3 := (hB.cell (p := ⟨bs, os + j1 * 6 + 3, none⟩) hbs).trans k3
        have x4 := (hB.cell (p := ⟨bs, os + j1 * 6 + 4, none⟩) hbs).trans k4
        have x5 := (hB.cell (p := ⟨bs, os + j1 * 6 + 5, none⟩) hbs).trans k5
        clear k0 k1 k2 k3 k4 k5
        obtain ⟨bq, oq, Cq, eq, Dq, fq, rfl, hbq, k0, k1, k2, k3, k4, k5, hVq⟩ := HL.out m1 hmx
        have y0 := (hB.cell (p := ⟨bq, oq + m1 * 6, none⟩) hbq).trans k0
        have y1 := (hB.cell (p := ⟨bq, oq + m1 * 6 + 1, none⟩) hbq).trans k1
        have y2 := (hB.cell (p := ⟨bq, oq + m1 * 6 + 2, none⟩) hbq).trans k2
        have y3 := (hB.cell (p := ⟨bq, oq + m1 * 6 + 3, none⟩) hbq).trans k3
        have y4 := (hB.cell (p := ⟨bq, oq + m1 * 6 + 4, none⟩) hbq).trans k4
        have y5 := (hB.cell (p := ⟨bq, oq + m1 * 6 + 5, none⟩) hbq).trans k5
        clear k0 k1 k2 k3 k4 k5
        obtain ⟨rfl, rfl⟩ : bp = bs ∧ op = os := by cases esx; exact ⟨rfl, rfl⟩
        clear esx
        have z5 := (cells6 HT1.out.b1).2.2.2.2.2
        have y9 := (cells6 HT1.out.b2).2.2.2.2.2
        have HEj : Hid (∀ W, Below w.heap.size w W → Calls Tryz.prog 30 #[.agg #[.int .i64 xs[j1].f0, .bool xs[j1].f1, .slice Cs xs[j1].f2.length es, .int .u64 xs[j1].f3, .string xs[j1].f4, .slice Ds xs[j1].f5.length fs], .agg #[.int .i64 ys[m1].f0, .bool ys[m1].f1, .slice Cq ys[m1].f2.length eq, .int .u64 ys[m1].f3, .string ys[m1].f4, .slice Dq ys[m1].f5.length fq]] W fun e W' => e = .returned (.bool (E xs[j1] ys[m1])) ∧ Below W.heap.size W W') := Lib.hid fun W hW => HE.out W hW j1 hjx m1 hmx _ _ (hVs.below hW) (hVq.below hW)
        clear hVs hVq hB
        obtain ⟨r, hr⟩ : ∃ r, E xs[j1] ys[m1] = r := ⟨_, rfl⟩
        have HV : Hid (pairQ E ys xs[j] xs[j + 1] = r) := Lib.hid (by rw [← hr, HZ.out]; subst hj1 hmm; rfl)
        rw [hr] at HEj
        have HJ1 := Lib.hid hj1
        clear hr HZ HFj HF HE HK HL hj1 hmm
        have eg : decide ((m : Int) < 0) = false := by simp
        have e3 : IntKind.i64.wrap (j1 : Int) = (j1 : Int) := IntWalk.i64_in _ (by omega)
        have e4 : IntKind.i64.wrap (m1 : Int) = (m1 : Int) := IntWalk.i64_in _ (by omega)
        have e5 : IntKind.i64.wrap ((j : Int) + 1) = (j1 : Int) := by rw [e1]; exact e3
        have e6 : IntKind.i64.wrap ((m : Int) + 1) = (m1 : Int) := by rw [e2]; exact e4
        have hjy : (j1 : Int) < (xs.length : Int) := by omega
        have hmy : (m1 : Int) < (ys.length : Int) := by omega
        have hm0 : m < ys.length := by omega
        go_upto_region 15 with fail
        go_region_held3 (fun W => ((W.cell? ⟨bp, op + j1 * 6, none⟩ = some (.int .i64 xs[j1].f0) ∧ W.cell? ⟨bp, op + j1 * 6 + 1, none⟩ = some (.bool xs[j1].f1) ∧ W.cell? ⟨bp, op + j1 * 6 + 2, none⟩ = some (.slice Cs xs[j1].f2.length es) ∧ W.cell? ⟨bp, op + j1 * 6 + 3, none⟩ = some (.int .u64 xs[j1].f3) ∧ W.cell? ⟨bp, op + j1 * 6 + 4, none⟩ = some (.string xs[j1].f4) ∧ W.cell? ⟨bp, op + j1 * 6 + 5, none⟩ = some (.slice Ds xs[j1].f5.length fs)) ∧ (W.cell? ⟨bq, oq + m1 * 6, none⟩ = some (.int .i64 ys[m1].f0) ∧ W.cell? ⟨bq, oq + m1 * 6 + 1, none⟩ = some (.bool ys[m1].f1) ∧ W.cell? ⟨bq, oq + m1 * 6 + 2, none⟩ = some (.slice Cq ys[m1].f2.length eq) ∧ W.cell? ⟨bq, oq + m1 * 6 + 3, none⟩ = some (.int .u64 ys[m1].f3) ∧ W.cell? ⟨bq, oq + m1 * 6 + 4, none⟩ = some (.string ys[m1].f4) ∧ W.cell? ⟨bq, oq + m1 * 6 + 5, none⟩ = some (.slice Dq ys[m1].f5.length fq))) ∧ W.cell? ⟨w.heap.size, 5, none⟩ = some (.slice (some ⟨bp, op, none⟩) xs.length c5) ∧ W.cell? ⟨w.heap.size + 1, 5, none⟩ = some (.slice (some ⟨bq, oq, none⟩) ys.length d5)) (first | (with_reducible exact ⟨⟨⟨r0, r1, r2, r3, r4, r5⟩, ⟨s0, s1, s2, s3, s4, s5⟩⟩, q, p⟩) | (with_reducible exact ⟨⟨⟨x0, x1, x2, x3, x4, x5⟩, ⟨y0, y1, y2, y3, y4, y5⟩⟩, z5, y9⟩) | exact ⟨⟨⟨x0, x1, x2, x3, x4, x5⟩, ⟨y0, y1, y2, y3, y4, y5⟩⟩, z5, y9⟩) (first
          | (go_at_call 30; (with_reducible refine (HEj.out _ (by first | (with_reducible exact HT1.out.low.drew) | exact HT1.out.low.drew)).mono ?_); rintro e w2 ⟨rfl, hb1⟩; have HT2 : Hid (TB w #[.int .i64 b0, .bool a1, .slice A2 a2.length c2, .int .u64 a3, .string a4, .slice (some ⟨bp, op, none⟩) xs.length c5] #[.int .i64 b0, .bool b1, .slice B2 b2.length d2, .int .u64 b3, .string b4, .slice (some ⟨bq, oq, none⟩) ys.length d5] w2) := Lib.hid ((HT1.out.below ((Below.refl _ _).drew)).below hb1); have hbwp := Nat.lt_of_lt_of_le hbp HT1.out.low.size; have hbwq := Nat.lt_of_lt_of_le hbq HT1.out.low.size; have r0 := (hb1.cell (p := ⟨bp, op + j1 * 6, none⟩) hbwp).trans x0; have r1 := (hb1.cell (p := ⟨bp, op + j1 * 6 + 1, none⟩) hbwp).trans x1; have r2 := (hb1.cell (p := ⟨bp, op + j1 * 6 + 2, none⟩) hbwp).trans x2; have r3 := (hb1.cell (p := ⟨bp, op + j1 * 6 + 3, none⟩) hbwp).trans x3; have r4 := (hb1.cell (p := ⟨bp, op + j1 * 6 + 4, none⟩) hbwp).trans x4; have r5 := (hb1.cell (p := ⟨bp, op + j1 * 6 + 5, none⟩) hbwp).trans x5; have s0 := (hb1.cell (p := ⟨bq, oq + m1 * 6, none⟩) hbwq).trans y0; have s1 := (hb1.cell (p := ⟨bq, oq + m1 * 6 + 1, none⟩) hbwq).trans y1; have s2 := (hb1.cell (p := ⟨bq, oq + m1 * 6 + 2, none⟩) hbwq).trans y2; have s3 := (hb1.cell (p := ⟨bq, oq + m1 * 6 + 3, none⟩) hbwq).trans y3; have s4 := (hb1.cell (p := ⟨bq, oq + m1 * 6 + 4, none⟩) hbwq).trans y4; have s5 := (hb1.cell (p := ⟨bq, oq + m1 * 6 + 5, none⟩) hbwq).trans y5; have q := (cells6 HT2.out.b1).2.2.2.2.2; have p := (cells6 HT2.out.b2).2.2.2.2.2; clear hb1))
        clear x0 x1 x2 x3 x4 x5 y0 y1 y2 y3 y4 y5 z5 y9 r0 r1 r2 r3 r4 r5 s0 s1 s2 s3 s4 s5 q p
        cases r
        · go_wp2
          go_ret
          exact ⟨by rw [HQ.out, HS.out, HV.out]; rfl, HT2.out.low⟩
        · go_wp2
          go_roundw
          case rel =>
            exact ⟨j + 2, by omega, by go_num, Lib.hid (by have := HP.out; omega), Lib.hid (by rw [HQ.out, HS.out, HV.out]; rfl), HT2⟩
          case measure => simp [intOf]; omega
    · have hjn : ¬ j < xs.length := by have := HP.out; have := ELN.out; omega
      have hall := HQ.out.trans (dictBy_end E ys xs j hjn)
      have z5 := (cells6 HT.out.b1).2.2.2.2.2
      go_wp2
      go_ret
      exact ⟨by rw [hall]; rfl, HT.out.low⟩
theorem treeEq_c : ∀ (n : Nat) (x y : VT) (v1 v2 : Value) (w : World), VR w v1 x → VR w v2 y → Ok n x → Ok n y →
    Calls Tryz.prog 30 #[v1, v2] w fun e w' => e = .returned (.bool (eqV n x y)) ∧ Below w.heap.size w w'
  | 0, x, y, v1, v2, w, h1, h2, o1, o2 => o1.elim
  | n + 1, x, y, v1, v2, w, h1, h2, o1, o2 => by
    have ih := treeEq_c n
    have HV1 := h1
    have HV2 := h2
    obtain ⟨A2, c2, A5, c5, rfl, p1, p2, p3, g1⟩ := h1.open
    obtain ⟨B2, d2, B5, d5, rfl, q1, q2, q3, g2⟩ := h2.open
    obtain ⟨l1, k1⟩ := o1
    obtain ⟨l2, k2⟩ := o2
    obtain ⟨a0, a1, a2, a3, a4, xs⟩ := x
    obtain ⟨b0, b1, b2, b3, b4, ys⟩ := y
    dsimp only at *
    have m1 : xs.length ≤ 1000000 := l1.many
    have m2 : ys.length ≤ 1000000 := l2.many
    have H1 := Lib.hid HV1
    have H2 := Lib.hid HV2
    by_cases hn1 : isNum ⟨a0, a1, a2, a3, a4, xs⟩ = true
    · by_cases hn2 : isNum ⟨b0, b1, b2, b3, b4, ys⟩ = true
      · have := teNum a0 a1 a2 a3 a4 xs b0 b1 b2 b3 b4 ys A2 c2 A5 c5 B2 d2 B5 d5 w H1 H2 hn1 hn2 l1 l2
        rw [show eqV (n + 1) ⟨a0, a1, a2, a3, a4, xs⟩ ⟨b0, b1, b2, b3, b4, ys⟩ = (ncmp ⟨a0, a1, a2, a3, a4, xs⟩ ⟨b0, b1, b2, b3, b4, ys⟩ == 0) by unfold eqV; rw [if_pos (by rw [hn1, hn2]; rfl)]]
        exact this
      · have hn2' : isNum ⟨b0, b1, b2, b3, b4, ys⟩ = false := by simpa using hn2
        have hab : a0 ≠ b0 := by
          rintro rfl
          simp [isNum] at hn1 hn2'
          omega
        have := teKindB a0 a1 a2 a3 a4 xs b0 b1 b2 b3 b4 ys A2 c2 A5 c5 B2 d2 B5 d5 w H1 H2 hn1 hn2' (by simpa using hab)
        rw [show eqV (n + 1) ⟨a0, a1, a2, a3, a4, xs⟩ ⟨b0, b1, b2, b3, b4, ys⟩ = false by unfold eqV; rw [if_neg (by rw [hn2']; simp), if_pos (Or.inl hab)]]
        exact this
    · have hn1' : isNum ⟨a0, a1, a2, a3, a4, xs⟩ = false := by simpa using hn1
      have hE : eqV (n + 1) ⟨a0, a1, a2, a3, a4, xs⟩ ⟨b0, b1, b2, b3, b4, ys⟩ = (if a0 ≠ b0 ∨ xs.length ≠ ys.length then false else if a0 = 0 then true else if a0 = 1 then a3 == b3 else if a0 = 8 then dictBy (eqV n) ys xs else if a0 = 9 then xs.all (fun k => (findV (eqV n) ys 1 k).isSome) else all2 (eqV n) xs ys && a4 == b4) := by
        rw [eqV, if_neg (by rw [hn1']; simp)]
      rw [hE]
      by_cases hab : a0 = b0
      · subst hab
        by_cases hl : xs.length = ys.length
        · rw [if_neg (by simp [hl])]
          have hlb : (((xs.length : Int)) != (ys.length : Int)) = false := by simp [hl]
          have hli : (xs.length : Int) = ys.length := by omega
          by_cases e0 : a0 = 0
          · rw [if_pos e0]
            exact teNone a1 a2 a3 a4 xs a0 b1 b2 b3 b4 ys A2 c2 A5 c5 B2 d2 B5 d5 w H1 H2 hn1' (by simpa using e0) hli
          · rw [if_neg e0]
            have k0 : (a0 == 0) = false := by simpa using e0
            by_cases e1 : a0 = 1
            · rw [if_pos e1]
              exact teBool a1 a2 a3 a4 xs a0 b1 b2 b3 b4 ys A2 c2 A5 c5 B2 d2 B5 d5 w H1 H2 hn1' k0 (by simpa using e1) hli
            · rw [if_neg e1]
              have k1' : (a0 == 1) = false := by simpa using e1
              by_cases e8 : a0 = 8
              · rw [if_pos e8]
                refine teDict a1 a2 a3 a4 xs a0 b1 b2 b3 b4 ys A2 c2 A5 c5 B2 d2 B5 d5 w H1 H2 hn1' (eqV n) k0 k1' (by simpa using e8) (Lib.hid ⟨hl, l1.pairs e8⟩) hlb m1 m2 g1 g2 ?_ ?_
                · exact Lib.hid fun W hW i hi u hu => treeFind_c (eqV n) B5 d5 ys xs[i] u 2 W (Kd.C_below g2 hW) hu m2 (Or.inr rfl) fun W2 hW2 j hj u2 v2 s1 s2 => ih _ _ _ _ W2 s1 s2 (k2 _ (List.getElem_mem hj)) (k1 _ (List.getElem_mem hi))
                · exact Lib.hid fun W hW i hi j hj u v' s1 s2 => ih _ _ _ _ W s1 s2 (k1 _ (List.getElem_mem hi)) (k2 _ (List.getElem_mem hj))
              · rw [if_neg e8]
                have k8 : (a0 == 8) = false := by simpa using e8
                by_cases e9 : a0 = 9
                · rw [if_pos e9]
                  refine teSet a1 a2 a3 a4 xs a0 b1 b2 b3 b4 ys A2 c2 A5 c5 B2 d2 B5 d5 w H1 H2 hn1' (eqV n) k0 k1' k8 (by simpa using e9) hli ?_
                  exact Lib.hid fun W hW => treeWithin_c (eqV n) ⟨a0, a1, a2, a3, a4, xs⟩ ⟨a0, b1, b2, b3, b4, ys⟩ _ _ W (HV1.below hW) (HV2.below hW) m1 m2 fun W2 hW2 j hj i hi u2 v2 s1 s2 => ih _ _ _ _ W2 s1 s2 (k2 _ (List.getElem_mem hj)) (k1 _ (List.getElem_mem hi))
                · rw [if_neg e9]
                  refine teRest a1 a2 a3 a4 xs a0 b1 b2 b3 b4 ys A2 c2 A5 c5 B2 d2 B5 d5 w H1 H2 hn1' (eqV n) k0 k1' k8 (by simpa using e9) (Lib.hid hl) hlb m1 g1 g2 ?_
                  exact Lib.hid fun W hW i hi hi2 u v' s1 s2 => ih _ _ _ _ W s1 s2 (k1 _ (List.getElem_mem hi)) (k2 _ (List.getElem_mem hi2))
        · rw [if_pos (Or.inr hl)]
          exact teLen a1 a2 a3 a4 xs a0 b1 b2 b3 b4 ys A2 c2 A5 c5 B2 d2 B5 d5 w H1 H2 hn1' (by omega)
      · rw [if_pos (Or.inl hab)]
        exact teKindA a0 a1 a2 a3 a4 xs b0 b1 b2 b3 b4 ys A2 c2 A5 c5 B2 d2 B5 d5 w H1 H2 hn1' (by simpa using hab)
def SC (y : VT) : Prop := ∃ s, Canon s y ∧ s.fit
def Box (y : VT) : Prop := y.f1 = false ∧ y.f2 = [] ∧ y.f3 = 0 ∧ y.f4 = ⟨#[]⟩
def HkT : Nat → VT → Prop
  | 0, y => y.f0 < 6
  | n + 1, y => y.f0 < 6 ∨ (y.f0 = 7 ∧ ∀ k ∈ y.f5, HkT n k)
abbrev EQ : VT → VT → Bool := eqV 9
def Dist (step : Nat) (ys : List VT) : Prop := ∀ a b (h : b * step < ys.length) (hab : a < b), EQ (ys[a * step]'(Nat.lt_of_le_of_lt (Nat.mul_le_mul_right _ (Nat.le_of_lt hab)) h)) ys[b * step] = false
def DictOk (n : Nat) (ys : List VT) : Prop := ys.length % 2 = 0 ∧ ys.length ≤ 16 ∧ (∀ i (h : i * 2 < ys.length), HkT n ys[i * 2]) ∧ Dist 2 ys
def SetOk (n : Nat) (ys : List VT) : Prop := ys.length ≤ 8 ∧ (∀ k ∈ ys, HkT n k) ∧ Dist 1 ys
def CT : Nat → VT → Prop
  | 0, y => SC y
  | n + 1, y => SC y ∨ (Box y ∧ y.f5.length ≤ 16 ∧ (∀ k ∈ y.f5, CT n k) ∧ (y.f0 = 6 ∨ y.f0 = 7 ∨ (y.f0 = 8 ∧ DictOk n y.f5) ∨ (y.f0 = 9 ∧ SetOk n y.f5)))
theorem SC.kind {y : VT} (h : SC y) : 0 ≤ y.f0 ∧ y.f0 < 6 := by
  obtain ⟨s, h, _⟩ := h
  rw [h.kind]
  cases s <;> simp [Sca.kind]
theorem SC.leaf {y : VT} (h : SC y) : Leaf y := h.choose_spec.1.leaf
theorem SC.kids {y : VT} (h : SC y) : y.f5 = [] := h.choose_spec.1.kids
theorem SC.hk {y : VT} (h : SC y) : ∀ n, HkT n y
  | 0 => h.kind.2
  | n + 1 => Or.inl h.kind.2
theorem CT.sc {y : VT} (h : SC y) : ∀ n, CT n y
  | 0 => h
  | n + 1 => Or.inl h
theorem CT.isSC {n : Nat} {y : VT} (h : CT n y) (hk : y.f0 < 6) : SC y := by
  cases n with
  | zero => exact h
  | succ n =>
    rcases h with h | ⟨_, _, _, h⟩
    · exact h
    · exfalso; omega
theorem CT.isBox {n : Nat} {y : VT} (h : CT n y) (hk : ¬ y.f0 < 6) : ∃ m, n = m + 1 ∧ Box y ∧ y.f5.length ≤ 16 ∧ (∀ k ∈ y.f5, CT m k) ∧ (y.f0 = 6 ∨ y.f0 = 7 ∨ (y.f0 = 8 ∧ DictOk m y.f5) ∨ (y.f0 = 9 ∧ SetOk m y.f5)) := by
  cases n with
  | zero => exact absurd (SC.kind h).2 hk
  | succ n =>
    rcases h with h | h
    · exact absurd (SC.kind h).2 hk
    · exact ⟨n, rfl, h⟩
theorem Ok.up : ∀ {n : Nat} {x : VT}, Ok n x → Ok (n + 1) x
  | 0, _, h => h.elim
  | n + 1, _, h => ⟨h.1, fun k hk => Ok.up (h.2 k hk)⟩
theorem Ok.le {n m : Nat} {x : VT} (h : Ok n x) (hm : n ≤ m) : Ok m x := by
  induction hm with
  | refl => exact h
  | step _ ih => exact ih.up
theorem CT.leaf {n : Nat} {y : VT} (h : CT n y) : Leaf y := by
  by_cases hk : y.f0 < 6
  · exact (h.isSC hk).leaf
  · obtain ⟨m, rfl, ⟨h1, h2, h3, h4⟩, hl, _, hc⟩ := h.isBox hk
    refine ⟨fun e => by omega, by rw [h3]; decide, by omega, ⟨(by rw [h2]; intro x hx; cases hx), (by rw [h2]; simp)⟩, by omega, fun e => ?_⟩
    rcases hc with hc | hc | ⟨_, hc⟩ | ⟨hc, _⟩
    · omega
    · omega
    · exact hc.1
    · omega
theorem CT.ok : ∀ {n : Nat} {y : VT}, CT n y → Ok (n + 1) y
  | 0, y, h => ⟨CT.leaf (n := 0) h, fun k hk => by rw [SC.kids h] at hk; cases hk⟩
  | n + 1, y, h => ⟨h.leaf, fun k hk => by
      rcases h with h | ⟨_, _, h, _⟩
      · rw [SC.kids h] at hk; cases hk
      · exact (h k hk).ok⟩
theorem CT.ok9 {n : Nat} {y : VT} (h : CT n y) (hn : n ≤ 8) : Ok 9 y := h.ok.le (by omega)
end Go.Proofs.YtkplnbjgkhmbcaaGreatDoor
