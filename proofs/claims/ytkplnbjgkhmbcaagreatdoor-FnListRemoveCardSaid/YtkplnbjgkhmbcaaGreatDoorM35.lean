/- impl.elements: the row of Vals so far. · impl.elements: the walk. · impl.behind without an error; what a removal leaves of the values. · impl.ListRemove. -/
import Derived.Test.YtkplnbjgkhmbcaaGreatDoorM34
import Derived.Test.YtkplnbjgkhmbcaaGreatDoorM33
import Derived.Test.YtkplnbjgkhmbcaaGreatDoorM31
import Derived.Test.YtkplnbjgkhmbcaaGreatDoorM08
import Derived.LoopTactic
import Derived.OwnWalk
namespace Go.Proofs.YtkplnbjgkhmbcaaGreatDoor
open Go.RowKit Go.Shelf Go.Proofs.YtkplnbjgkhmbcaaGreatDoorW.PrintWords Go.Proofs.YtkplnbjgkhmbcaaGreatDoorW.PrintLast Go.Proofs.YtkplnbjgkhmbcaaGreatDoorW.PrintMore Go.Proofs.YtkplnbjgkhmbcaaGreatDoor.PFnCompare Go.Proofs.YtkplnbjgkhmbcaaGreatDoor.PCmp Go.Proofs.YtkplnbjgkhmbcaaGreatDoor.PbytesOf Go.Proofs.YtkplnbjgkhmbcaaGreatDoor.Pcmp
set_option linter.unusedVariables false
set_option linter.unusedSimpArgs false

theorem vInfo : (Tryz.prog.info? 26).map (fun i => (i.zero, i.size, i.bytes)) = some (some (.agg #[.int .i64 0, .bool false, .slice none 0 0, .int .u64 0, .string ⟨#[]⟩, .slice none 0 0]), 6, 88) := by kernel_rfl
def six (x : VT) (A : Option Addr) (c : Nat) : List Value := [.int .i64 x.f0, .bool x.f1, .slice A x.f2.length c, .int .u64 x.f3, .string x.f4, .slice none 0 0]
theorem Sl.stay {k : IntKind} {B : Nat} {w w' : World} {v : Value} {l : List Int} (h : Sl k B w v l) (hw : ∀ i, B ≤ i → i < w.heap.size → w'.heap[i]? = w.heap[i]?) (hs : w.heap.size ≤ w'.heap.size) : Sl k B w' v l := by
  obtain ⟨A, c, rfl, h1, h2, h3⟩ := h
  refine ⟨A, c, rfl, h1, h2, fun hne => ?_⟩
  obtain ⟨b, o, rfl, hB, hlt, hc⟩ := h3 hne
  refine ⟨b, o, rfl, hB, Nat.lt_of_lt_of_le hlt hs, fun j hj => ?_⟩
  have := hc j hj
  unfold World.cell? at this ⊢
  rw [hw b hB hlt]
  exact this
/-- The Vals told so far, in a new row of room N. -/
structure VO (w0 : World) (M N : Nat) (ss : List Sca) (xs : List VT) (w : World) : Prop where
  low : Below w0.heap.size w0 w
  hM : w0.heap.size ≤ M
  lt : M < w.heap.size
  len : xs.length = ss.length
  el : ∀ i (h : i < xs.length), ∃ A c, (∀ j v, (six xs[i] A c)[j]? = some v → w.cell? ⟨M, i * 6 + j, none⟩ = some v) ∧ Sl .u8 (M + 1) w (.slice A xs[i].f2.length c) xs[i].f2 ∧ xs[i].f5 = []
  canon : ∀ i (h1 : i < xs.length) (h2 : i < ss.length), Canon ss[i] xs[i]
  room : ∀ i, i < N * 6 → (w.cell? ⟨M, i, none⟩).isSome = true ∧ w.frozen? ⟨M, i, none⟩ = false
theorem VO.below {w0 w w' : World} {M N : Nat} {ss : List Sca} {xs : List VT} (h : VO w0 M N ss xs w) (hb : Below w.heap.size w w') : VO w0 M N ss xs w' :=
  ⟨h.low.trans (hb.mono h.low.size), h.hM, Nat.lt_of_lt_of_le h.lt hb.size, h.len, fun i hi => by
    obtain ⟨A, c, h1, h2, h3⟩ := h.el i hi
    exact ⟨A, c, fun j v hj => (hb.cell (p := ⟨M, i * 6 + j, none⟩) h.lt).trans (h1 j v hj), h2.below hb, h3⟩, h.canon, fun i hi => ⟨by rw [hb.cell (p := ⟨M, i, none⟩) h.lt]; exact (h.room i hi).1, (hb.frozen (p := ⟨M, i, none⟩) h.lt).trans (h.room i hi).2⟩⟩
theorem vo_start (w : World) (N : Nat) (z : Array Value) (e : TypeId) : VO w w.heap.size N [] [] (w.alloc (.cells (madeCells z (N * 6)) e)) := by
  refine ⟨(Below.refl _ w).alloc (Nat.le_refl _) _, Nat.le_refl _, by simp, rfl, (fun i h => absurd h (Nat.not_lt_zero _)), (fun i h => absurd h (Nat.not_lt_zero _)), fun i hi => ⟨?_, ?_⟩⟩
  · rw [World.cell?_alloc_mark, Array.getElem?_eq_getElem (by simpa [madeCells] using hi)]; rfl
  · rw [World.frozen?_alloc_mark]; simp
theorem VO.push {w0 w : World} {M N : Nat} {ss : List Sca} {xs : List VT} {x : VT} {s : Sca} {A : Option Addr} {c : Nat} (h : VO w0 M N ss xs w) (hs : Sl .u8 (M + 1) w (.slice A x.f2.length c) x.f2) (h5 : x.f5 = []) (hc : Canon s x) (hk : xs.length < N) : VO w0 M N (ss ++ [s]) (xs ++ [x]) (w.setCells M (xs.length * 6) (six x A c)) := by
  have hsz : (w.setCells M (xs.length * 6) (six x A c)).heap.size = w.heap.size := size_setCells _ _ _ _
  have hst : ∀ i, M + 1 ≤ i → i < w.heap.size → (w.setCells M (xs.length * 6) (six x A c)).heap[i]? = w.heap[i]? := fun i h1 h2 => World.heap_setCells_other w M _ _ h2 (by omega)
  have hin : ∀ l, l < (six x A c).length → (w.cell? ⟨M, xs.length * 6 + l, none⟩).isSome = true := fun l hl => (h.room _ (by simp [six] at hl; omega)).1
  have hl := h.len
  refine ⟨below_setCells h.hM _ _ _ h.low, h.hM, by rw [hsz]; exact h.lt, by simp [h.len], ?_, ?_, ?_⟩
  · intro i hi
    by_cases hlt : i < xs.length
    · rw [List.getElem_append_left hlt]
      obtain ⟨A', c', h1, h2, h3⟩ := h.el i hlt
      refine ⟨A', c', fun j v hj => ?_, h2.stay hst (Nat.le_of_eq hsz.symm), h3⟩
      have hj6 : j < 6 := (List.getElem?_eq_some_iff.1 hj).1
      rw [World.cell?_setCells_out M _ _ _ _ (fun _ _ => Or.inl (by show i * 6 + j < xs.length * 6; omega))]
      exact h1 j v hj
    · have hie : i = xs.length := by simp at hi; omega
      subst hie
      have e2 : (xs ++ [x])[xs.length] = x := by simp
      rw [e2]
      refine ⟨A, c, fun j v hj => ?_, hs.stay hst (Nat.le_of_eq hsz.symm), h5⟩
      obtain ⟨hj6, hv⟩ := List.getElem?_eq_some_iff.1 hj
      rw [World.cell?_setCells_in M (six x A c) (xs.length * 6) w hin j hj6, hv]
  · intro i h1 h2
    by_cases hlt : i < xs.length
    · rw [List.getElem_append_left hlt, List.getElem_append_left (by omega)]
      exact h.canon i hlt (by omega)
    · have hie : i = xs.length := by simp at h1; omega
      subst hie
      have e2 : (xs ++ [x])[xs.length] = x := by simp
      have e3 : (ss ++ [s])[xs.length]'h2 = s := by simp [hl]
      rw [e2, e3]
      exact hc
  · intro i hi
    refine ⟨?_, by rw [World.frozen?_setCells]; exact (h.room i hi).2⟩
    by_cases hr : xs.length * 6 ≤ i ∧ i < xs.length * 6 + 6
    · have := World.cell?_setCells_in M (six x A c) (xs.length * 6) w hin (i - xs.length * 6) (by simp [six]; omega)
      rw [show xs.length * 6 + (i - xs.length * 6) = i by omega] at this
      rw [this]; rfl
    · rw [World.cell?_setCells_out M _ _ _ _ (fun _ _ => by show i < xs.length * 6 ∨ xs.length * 6 + (six x A c).length ≤ i; simp [six]; omega)]
      exact (h.room i hi).1
theorem VO.rows {w0 w : World} {M N : Nat} {ss : List Sca} {xs : List VT} (h : VO w0 M N ss xs w) (hn : xs.length ≤ 1000000) : kV.C w (some ⟨M, 0, none⟩) xs.length xs := by
  refine ⟨rfl, by omega, fun _ => ⟨_, rfl, fun j p hj => ?_⟩⟩
  obtain ⟨hlt, rfl⟩ := List.getElem?_eq_some_iff.1 hj
  obtain ⟨A, c, h1, h2, h3⟩ := h.el j hlt
  obtain ⟨A', c', e, hc', hC⟩ := h2.c
  simp only [Value.slice.injEq] at e
  obtain ⟨rfl, _, rfl⟩ := e
  refine ⟨six xs[j] A c, rfl, ?_, fun i u hi => ?_⟩
  · have hz : kV.C w none xs[j].f5.length xs[j].f5 := by rw [h3]; exact ⟨rfl, by simp, fun h => by simp at h⟩
    have := k26_mk w xs[j] hc' hC (A5 := none) (c5 := 0) (by rw [h3]; exact Nat.le_refl _) hz
    rw [h3] at this
    exact this
  · rw [add_off]
    exact h1 i u hi
end Go.Proofs.YtkplnbjgkhmbcaaGreatDoor

namespace Go.Proofs.YtkplnbjgkhmbcaaGreatDoor
open Go.RowKit Go.Shelf Go.Proofs.YtkplnbjgkhmbcaaGreatDoorW.PrintWords Go.Proofs.YtkplnbjgkhmbcaaGreatDoorW.PrintLast Go.Proofs.YtkplnbjgkhmbcaaGreatDoorW.PrintMore Go.Proofs.YtkplnbjgkhmbcaaGreatDoor.PFnCompare Go.Proofs.YtkplnbjgkhmbcaaGreatDoor.PCmp Go.Proofs.YtkplnbjgkhmbcaaGreatDoor.PbytesOf Go.Proofs.YtkplnbjgkhmbcaaGreatDoor.Pcmp
set_option linter.unusedVariables false
set_option linter.unusedSimpArgs false

set_option maxRecDepth 100000 in
theorem app_six (w : World) (M j n : Nat) (x : VT) (A : Option Addr) (c : Nat) (hj : j < n) (hM : M < w.heap.size) (hr : ∀ i, i < n * 6 → (w.cell? ⟨M, i, none⟩).isSome = true ∧ w.frozen? ⟨M, i, none⟩ = false) :
    (Builtin.append_ #[24, 24] 24 #[.slice (some ⟨M, 0, none⟩) j n, .slice (some ⟨w.heap.size, 0, none⟩) 1 1]).run Tryz.prog (w.alloc (.cells #[.int .i64 x.f0, .bool x.f1, .slice A x.f2.length c, .int .u64 x.f3, .string x.f4, .slice none 0 0] 26)) = .ok (.slice (some ⟨M, 0, none⟩) (j + 1) n) ((w.alloc (.cells #[.int .i64 x.f0, .bool x.f1, .slice A x.f2.length c, .int .u64 x.f3, .string x.f4, .slice none 0 0] 26)).setCells M (j * 6) (six x A c)) := by
  obtain ⟨i0, hi0, hz0, hz1, hz2⟩ := info_parts vInfo
  have hb : Below w.heap.size w (w.alloc (.cells #[.int .i64 x.f0, .bool x.f1, .slice A x.f2.length c, .int .u64 x.f3, .string x.f4, .slice none 0 0] 26)) := (Below.refl _ w).alloc (Nat.le_refl _) _
  have hlen : (six x A c).length = 6 := rfl
  have := run_append_room_cells (P := Tryz.prog) (w.alloc (.cells #[.int .i64 x.f0, .bool x.f1, .slice A x.f2.length c, .int .u64 x.f3, .string x.f4, .slice none 0 0] 26)) 24 24 26 i0 Tryz.underlying24 hi0 M 0 j n ⟨w.heap.size, 0, none⟩ 1 1 (six x A c) (by rw [hz1]; rfl)
    (fun l u hu => by
      rw [add_off]
      refine blk_cell (blk_new _ _) l _ ?_
      rw [show (#[.int .i64 x.f0, .bool x.f1, .slice A x.f2.length c, .int .u64 x.f3, .string x.f4, .slice none 0 0] : Array Value) = (six x A c).toArray from rfl, List.getElem?_toArray]
      exact hu)
    (fun u hu => by
      simp only [six, List.mem_cons, List.not_mem_nil, or_false] at hu
      rcases hu with rfl | rfl | rfl | rfl | rfl | rfl <;> rfl) (by omega)
    (fun l hl => by rw [hlen] at hl; rw [hz1, Nat.zero_add, hb.cell (p := ⟨M, j * 6 + l, none⟩) hM]; exact (hr _ (by omega)).1)
    (fun l hl => by rw [hlen] at hl; rw [hz1, Nat.zero_add, hb.frozen (p := ⟨M, j * 6 + l, none⟩) hM]; exact (hr _ (by omega)).2)
  rw [hz1, Nat.zero_add] at this
  exact this

set_option maxRecDepth 100000 in
set_option maxHeartbeats 1000000 in
theorem elements_c (g A c : Nat) (us : List Value) (ss : List Sca) (B : Nat) (w : World) (h : EL w g A c us) (hs : ∀ i (h1 : i < us.length) (h2 : i < ss.length), ScaV B w us[i] ss[i]) (hf : ∀ s ∈ ss, s.fit) (hl : us.length = ss.length) (hn : us.length ≤ 1000000) :
    Calls Tryz.prog 83 #[.pointer (some ⟨g, 0, none⟩)] w fun e w' => ∃ M xs, e = .returned (.slice (some ⟨M, 0, none⟩) xs.length xs.length) ∧ xs.length = us.length ∧ VO w M us.length ss xs w' := by
  obtain ⟨i0, hi0, hz0, hz1, hz2⟩ := info_parts vInfo
  have hmk := fun W => run_make (P := Tryz.prog) W 24 26 i0 (.agg #[.int .i64 0, .bool false, .slice none 0 0, .int .u64 0, .string ⟨#[]⟩, .slice none 0 0]) Tryz.underlying24 hi0 hz0 .i64 .i64 0 us.length (by omega) (by omega) (by rw [hz2]; omega) (by omega)
  simp only [hz1, Int.toNat_natCast, Int.toNat_zero] at hmk
  have hcl : (Value.agg #[.int .i64 0, .bool false, .slice none 0 0, .int .u64 0, .string ⟨#[]⟩, .slice none 0 0]).cells = #[.int .i64 0, .bool false, .slice none 0 0, .int .u64 0, .string ⟨#[]⟩, .slice none 0 0] := rfl
  rw [hcl] at hmk
  have HS0 := Lib.hid (vo_start w us.length #[.int .i64 0, .bool false, .slice none 0 0, .int .u64 0, .string ⟨#[]⟩, .slice none 0 0] 26)
  have HEL := Lib.hid (fun W (hB : Below w.heap.size w W) => h.below hB)
  have HSV := Lib.hid (fun W (hB : Below w.heap.size w W) i (h1 : i < us.length) (h2 : i < ss.length) => (hs i h1 h2).below hB)
  have HF := Lib.hid hf
  have HL0 := Lib.hid h
  have HLn := Lib.hid hl
  clear hcl hz0 hz1 hz2 hi0 h hs hf hl
  go_enter Tryz.func83, Tryz.ntmps83
  go_wp2_with (go_at_call 122; (with_reducible refine (listLen_c _ _ _ _ _ (by first | exact HL0.out.lt | exact (HEL.out _ HS0.out.low).lt)).mono ?_); rintro e w1 ⟨rfl, hw1⟩; have hw2 := hw1.symm; clear hw1; subst hw2)
  clear hmk
  go_loopw [3, 10] (fun out i wr => ∃ (j : Nat) (xs : List VT), j ≤ us.length ∧ i = .int .i64 (j : Int) ∧ xs.length = j ∧ out = .slice (some ⟨w.heap.size, 0, none⟩) j us.length ∧ Hid (VO w w.heap.size us.length (ss.take j) xs wr)) (fun _ i _ => us.length - (intOf i).toNat)
  case atStart => exact ⟨0, [], Nat.zero_le _, rfl, rfl, rfl, HS0⟩
  case round =>
    obtain ⟨j, xs, hj, rfl, hx, rfl, HS⟩ := hrel
    by_cases hlt : j < us.length
    · have hls : j < ss.length := by rw [← HLn.out]; exact hlt
      have hMr := HS.out.lt
      have HV0 := Lib.hid (HSV.out wr HS.out.low j hlt hls)
      obtain ⟨T, x, hTx⟩ := sca_one HV0.out
      have HI := Lib.hid (listIndex_c g A c j us T x wr (HEL.out _ HS.out.low) hlt hn hTx)
      have HT : Hid (Calls Tryz.prog 123 #[.iface T x] wr (TellR wr ss[j])) := by rw [hTx] at HV0; exact Lib.hid (tellScalar_c B _ _ _ HV0.out (HF.out _ (List.getElem_mem hls)))
      clear hTx HV0
      go_wp2_with (first
        | (at_builtin; refine wpList_append_run rfl _ _ _ rfl _ _ _ rfl rfl happ.out ?_)
        | (go_at_call 124; (with_reducible refine HI.out.mono ?_); rintro e w1 ⟨rfl, hw1⟩; have hw2 := hw1.symm; clear hw1; subst hw2)
        | (go_at_call 123; (with_reducible refine HT.out.mono ?_); rintro e w3 ⟨u, y, rfl, ⟨A2, c2, rfl, hsl, h5⟩, hc, hb3⟩; have HV := Lib.hid (And.intro hsl (And.intro h5 (And.intro hc hb3))); have happ := Lib.hid (app_six w3 w.heap.size j us.length y A2 c2 hlt (Nat.lt_of_lt_of_le hMr hb3.size) (HS.out.below hb3).room); clear hsl h5 hc hb3))
      go_roundw
      case rel =>
        subst hx
        obtain ⟨hsl, h5, hc, hb3⟩ := HV.out
        have hb4 : Below w3.heap.size w3 (w3.alloc (.cells #[.int .i64 y.f0, .bool y.f1, .slice A2 y.f2.length c2, .int .u64 y.f3, .string y.f4, .slice none 0 0] 26)) := (Below.refl _ _).alloc (Nat.le_refl _) _
        have hq := ((HS.out.below hb3).below hb4).push ((hsl.mono hMr).below hb4) h5 hc hlt
        rw [show ss.take xs.length ++ [ss[xs.length]] = ss.take (xs.length + 1) by rw [List.take_succ_eq_append_getElem hls]] at hq
        exact ⟨xs.length + 1, xs ++ [y], by omega, by go_num, by simp, rfl, Lib.hid hq⟩
      case measure => simp [intOf]; omega
    · have hje : j = us.length := by omega
      subst hje
      go_wp2
      go_ret
      have hq := HS.out
      rw [List.take_of_length_le (Nat.le_of_eq HLn.out.symm)] at hq
      exact ⟨w.heap.size, xs, by rw [hx]; rfl, hx, hq⟩
end Go.Proofs.YtkplnbjgkhmbcaaGreatDoor

namespace Go.Proofs.YtkplnbjgkhmbcaaGreatDoor
open Go.RowKit Go.Shelf Go.Proofs.YtkplnbjgkhmbcaaGreatDoorW.PrintWords Go.Proofs.YtkplnbjgkhmbcaaGreatDoorW.PrintLast Go.Proofs.YtkplnbjgkhmbcaaGreatDoorW.PrintMore Go.Proofs.YtkplnbjgkhmbcaaGreatDoor.PFnCompare Go.Proofs.YtkplnbjgkhmbcaaGreatDoor.PCmp Go.Proofs.YtkplnbjgkhmbcaaGreatDoor.PbytesOf Go.Proofs.YtkplnbjgkhmbcaaGreatDoor.Pcmp
set_option linter.unusedVariables false
set_option linter.unusedSimpArgs false

set_option maxRecDepth 100000 in
theorem behindOk_c (g A c : Nat) (us : List Value) (ss : List Sca) (B : Nat) (w : World) (h : EL w g A c us) (hs : ∀ i (h1 : i < us.length) (h2 : i < ss.length), ScaV B w us[i] ss[i]) (hf : ∀ s ∈ ss, s.fit) (hl : us.length = ss.length) (hn : us.length ≤ 1000000) :
    Calls Tryz.prog 49 #[.pointer (some ⟨g, 0, none⟩), .nilIface] w fun e w' => ∃ M xs, e = .returned (.tuple #[.slice (some ⟨M, 0, none⟩) xs.length xs.length, .bool true, .bool true]) ∧ xs.length = us.length ∧ VO w M us.length ss xs w' := by
  have HE := Lib.hid (elements_c g A c us ss B w h hs hf hl hn)
  clear h hs hf hl hn
  go_enter Tryz.func49, Tryz.ntmps49
  go_wp2_with (go_at_call 83; (with_reducible refine HE.out.mono ?_); rintro e w1 ⟨M, xs, rfl, hx, hv⟩; have HV := Lib.hid (And.intro hx hv); clear hx hv)
  exact bodyPost_ret (v := .tuple #[.slice (some ⟨M, 0, none⟩) xs.length xs.length, .bool true, .bool true]) (by simp [results, Tryz.results49, go_sem]) rfl ⟨M, xs, rfl, HV.out.1, HV.out.2⟩

/-- A row of words lies in no block that holds other things. -/
theorem Sl.but2 {B A g : Nat} {w w' : World} {v : Value} {zs : List Int} {a : Value} (h : Sl .u64 B w v zs) (hA : A < B) (hk : LT w g a) (ha : ∀ n : Int, a ≠ .int .u64 n) (hb : But2 w.heap.size A g w w') : Sl .u64 B w' v zs := by
  obtain ⟨A', c, rfl, h1, h2, h3⟩ := h
  refine ⟨A', c, rfl, h1, h2, fun hne => ?_⟩
  obtain ⟨b, o, rfl, hB, hlt, hc⟩ := h3 hne
  have hbg : b ≠ g := by
    rintro rfl
    have h0 := hc 0 (List.length_pos_iff.2 hne)
    have hk' : w.heap[b]? = _ := hk
    unfold World.cell? at h0
    rw [hk'] at h0
    simp at h0
    rcases o with _ | _ | _ | o <;> simp at h0
    exact ha _ h0
  refine ⟨b, o, rfl, hB, Nat.lt_of_lt_of_le hlt hb.2.size, fun j hj => ?_⟩
  have hj' := hc j hj
  unfold World.cell? at hj' ⊢
  rw [hb.1 b hlt (by omega) hbg]
  exact hj'
theorem ScaV.but {A g : Nat} {w w' : World} {v : Value} {s : Sca} {a : Value} (h : ScaV (A + 1) w v s) (hk : LT w g a) (ha : ∀ n : Int, a ≠ .int .u64 n) (hb : But2 w.heap.size A g w w') : ScaV (A + 1) w' v s := by
  cases s <;> first | exact h | skip
  obtain ⟨u, rfl, h⟩ := h
  refine ⟨u, rfl, ?_⟩
  rcases h with ⟨hs, rfl⟩ | ⟨hs, g', neg, v, zs, rfl, hg, hbi, hv, hl⟩
  · exact Or.inl ⟨hs, rfl⟩
  · have hne : g' ≠ g := by
      rintro rfl
      have h1 : w.heap[g']? = _ := hk
      rw [hbi.blk] at h1
      simp at h1
    exact Or.inr ⟨hs, g', neg, v, zs, rfl, hg, ⟨(hb.1 g' (lt_blk hbi.blk) (by omega) hne).trans hbi.blk, hbi.sl.but2 (by omega) hk ha hb, hbi.words, hbi.top⟩, hv, hl⟩
/-- Two values whose big numbers lie on two sides of a bound. -/
theorem apart_of {B1 : Nat} {w1 w2 : World} {v1 v2 : Value} {s t : Sca} (h1 : ScaV B1 w1 v1 s) (h2 : ScaV w1.heap.size w2 v2 t) : Apart v1 v2 := by
  intro g1 g2 e1 e2
  subst e1 e2
  cases s <;> cases t <;> first | (cases h1; done) | (cases h2; done) | skip
  obtain ⟨u1, q1, k1⟩ := h1
  obtain ⟨u2, q2, k2⟩ := h2
  simp only [Value.iface.injEq, true_and] at q1 q2
  subst q1 q2
  rcases k1 with ⟨_, k1⟩ | ⟨_, g1', n1, v1, z1, k1, _, hb1, _⟩
  · simp at k1
  · rcases k2 with ⟨_, k2⟩ | ⟨_, g2', n2, v2, z2, k2, hg2, _⟩
    · simp at k2
    · simp at k1 k2
      have := lt_blk hb1.blk
      omega
end Go.Proofs.YtkplnbjgkhmbcaaGreatDoor

namespace Go.Proofs.YtkplnbjgkhmbcaaGreatDoor
open Go.RowKit Go.Shelf Go.Proofs.YtkplnbjgkhmbcaaGreatDoorW.PrintWords Go.Proofs.YtkplnbjgkhmbcaaGreatDoorW.PrintLast Go.Proofs.YtkplnbjgkhmbcaaGreatDoorW.PrintMore Go.Proofs.YtkplnbjgkhmbcaaGreatDoor.PFnCompare Go.Proofs.YtkplnbjgkhmbcaaGreatDoor.PCmp Go.Proofs.YtkplnbjgkhmbcaaGreatDoor.PbytesOf Go.Proofs.YtkplnbjgkhmbcaaGreatDoor.Pcmp
set_option linter.unusedVariables false
set_option linter.unusedSimpArgs false

theorem But2.low {n A g B : Nat} {w w' : World} (h : But2 n A g w w') (h1 : B ≤ n) (h2 : B ≤ A) (h3 : B ≤ g) : Below B w w' :=
  ⟨h.2.os, h.2.tape, h.2.output, h.2.size, fun k hk => h.1 k (by omega) (by omega) (by omega)⟩
/-- Which element is equal to t. -/
def qOf (ss : List Sca) (t : Sca) (j : Nat) : Bool := (ss[j]?.map (fun s => eqS s t)).getD false
theorem qOf_at {ss : List Sca} {t : Sca} {j : Nat} (h : j < ss.length) : qOf ss t j = eqS ss[j] t := by
  unfold qOf; rw [List.getElem?_eq_getElem h]; rfl
/-- Vals of these scalars. -/
def CanonL (ss : List Sca) (xs : List VT) : Prop := xs.length = ss.length ∧ ∀ i (h1 : i < xs.length) (h2 : i < ss.length), Canon ss[i] xs[i]
/-- No element is equal to t, or the j-th is the first one. -/
def FirstAt (ss : List Sca) (t : Sca) (j : Nat) : Prop := j < ss.length ∧ qOf ss t j = true ∧ ∀ i, i < j → qOf ss t i = false
/-- What impl.ListRemove answers. -/
def RemR (w : World) (ss : List Sca) (t : Sca) (e : Ending) (w' : World) : Prop :=
  Below w.heap.size w w' ∧ (((∀ j, j < ss.length → qOf ss t j = false) ∧ e = .returned (.tuple #[.slice none 0 0, .bool false, .bool true])) ∨
   ∃ j M ys, FirstAt ss t j ∧ e = .returned (.tuple #[.slice (some ⟨M, 0, none⟩) ys.length ys.length, .bool true, .bool true]) ∧ CanonL (ss.eraseIdx j) ys ∧ kV.C w' (some ⟨M, 0, none⟩) ys.length ys)

theorem removeIn_c (W0 w1 w2 : World) (M g n : Nat) (us : List Value) (ss : List Sca) (T : TypeId) (x : Value) (t : Sca) (hE : EL w1 g M n us) (hS : SO W0 M n ss us w1) (hgM : g ≠ M) (hb : Below w1.heap.size w1 w2) (hu : ScaV w1.heap.size w2 (.iface T x) t) (hf : ∀ s ∈ ss, s.fit) (hft : t.fit) (hn : us.length ≤ 12) (hc : n = us.length) (hT : Thr w2) (hL : Lim w2) :
    Calls Tryz.prog 48 #[.pointer (some ⟨g, 0, none⟩), .slice (some ⟨w2.heap.size, 0, none⟩) 1 1] (w2.alloc (.cells #[.iface T x] 57)) (RemP (w2.alloc (.cells #[.iface T x] 57)) g M n us (qOf ss t)) := by
  have hb2 : Below w2.heap.size w2 (w2.alloc (.cells #[.iface T x] 57)) := (Below.refl _ w2).alloc (Nat.le_refl _) _
  refine zzRemoveOf_c g M n w2.heap.size 1 us x T (qOf ss t) _ ((hE.below hb).below hb2) (blk_cell (blk_new _ _) 0 _ rfl) (by omega) ⟨by omega, by omega⟩ hgM (fun j h => sca_one (hS.sv j h (by rw [← hS.len]; exact h))) (Lib.hid fun W hW j h => ?_)
  have hj : j < ss.length := by rw [← hS.len]; exact h
  rw [qOf_at hj]
  have hs1 := hS.sv j h hj
  have h12 : Below w1.heap.size w1 W := hb.trans ((hb2.mono hb.size).trans (hW.mono (Nat.le_trans hb.size hb2.size)))
  have h22 : Below w2.heap.size w2 W := hb2.trans (hW.mono hb2.size)
  exact equal_c (M + 1) w1.heap.size us[j] (.iface T x) ss[j] t W (hs1.below h12) (hu.below h22) (hf _ (List.getElem_mem hj)) hft (apart_of hs1 hu) (hT.below h22) (hL.below h22)

theorem removeNone_c (W0 w1 w2 : World) (M g n : Nat) (us : List Value) (ss : List Sca) (T : TypeId) (x : Value) (t : Sca) (hE : EL w1 g M n us) (hS : SO W0 M n ss us w1) (hgM : g ≠ M) (hb : Below w1.heap.size w1 w2) (hu : ScaV w1.heap.size w2 (.iface T x) t) (hf : ∀ s ∈ ss, s.fit) (hft : t.fit) (hn : us.length ≤ 12) (hc : n = us.length) (hT : Thr w2) (hL : Lim w2) (hall : ∀ j, j < ss.length → qOf ss t j = false) :
    Calls Tryz.prog 48 #[.pointer (some ⟨g, 0, none⟩), .slice (some ⟨w2.heap.size, 0, none⟩) 1 1] (w2.alloc (.cells #[.iface T x] 57)) fun e w' => ∃ p, e = .returned (.tuple #[.nilIface, .iface 187 (.pointer (some p))]) ∧ Below w2.heap.size w2 w' :=
  (removeIn_c W0 w1 w2 M g n us ss T x t hE hS hgM hb hu hf hft hn hc hT hL).mono fun e w' h => by
    have hb2 : Below w2.heap.size w2 (w2.alloc (.cells #[.iface T x] 57)) := (Below.refl _ w2).alloc (Nat.le_refl _) _
    rcases h with ⟨_, ⟨p, h2⟩, h3⟩ | ⟨j, h1, h2, _⟩
    · exact ⟨p, h2, hb2.trans (h3.mono hb2.size)⟩
    · rw [hall j (by rw [← hS.len]; exact h1)] at h2; cases h2
theorem removeAt_c (W0 w1 w2 : World) (M g n : Nat) (us : List Value) (ss : List Sca) (T : TypeId) (x : Value) (t : Sca) (hE : EL w1 g M n us) (hS : SO W0 M n ss us w1) (hgM : g ≠ M) (hb : Below w1.heap.size w1 w2) (hu : ScaV w1.heap.size w2 (.iface T x) t) (hf : ∀ s ∈ ss, s.fit) (hft : t.fit) (hn : us.length ≤ 12) (hc : n = us.length) (hT : Thr w2) (hL : Lim w2) (hall : ¬ ∀ j, j < ss.length → qOf ss t j = false) :
    Calls Tryz.prog 48 #[.pointer (some ⟨g, 0, none⟩), .slice (some ⟨w2.heap.size, 0, none⟩) 1 1] (w2.alloc (.cells #[.iface T x] 57)) fun e w' => e = .returned (.tuple #[.iface 137 (.int .u8 0), .nilIface]) ∧ ∃ j, FirstAt ss t j ∧ EL w' g M n (us.eraseIdx j) ∧ But2 (w2.alloc (.cells #[.iface T x] 57)).heap.size M g (w2.alloc (.cells #[.iface T x] 57)) w' ∧ ∀ i (h1 : i < (us.eraseIdx j).length) (h2 : i < (ss.eraseIdx j).length), ScaV (M + 1) w' (us.eraseIdx j)[i] (ss.eraseIdx j)[i] :=
  (removeIn_c W0 w1 w2 M g n us ss T x t hE hS hgM hb hu hf hft hn hc hT hL).mono fun e w' h => by
    have hb2 : Below w2.heap.size w2 (w2.alloc (.cells #[.iface T x] 57)) := (Below.refl _ w2).alloc (Nat.le_refl _) _
    rcases h with ⟨h1, _⟩ | ⟨j, h1, h2, h3, h4, h5, h6⟩
    · exact absurd (fun j hj => h1 j (by rw [hS.len]; exact hj)) hall
    · refine ⟨h4, j, ⟨by rw [← hS.len]; exact h1, h2, h3⟩, h5, h6, fun i k1 k2 => ?_⟩
      have hl := hS.len
      have hw : Below w1.heap.size w1 (w2.alloc (.cells #[.iface T x] 57)) := hb.trans (hb2.mono hb.size)
      have hlt := (hE.below hw).lt
      rw [List.length_eraseIdx_of_lt h1] at k1
      by_cases hij : i < j
      · rw [List.getElem_eraseIdx_of_lt (h' := hij), List.getElem_eraseIdx_of_lt (h' := hij)]
        exact ((hS.sv i (by omega) (by omega)).below hw).but hlt (fun n e => by cases e) h6
      · rw [List.getElem_eraseIdx_of_ge (h' := by omega), List.getElem_eraseIdx_of_ge (h' := by omega)]
        exact ((hS.sv (i + 1) (by omega) (by omega)).below hw).but hlt (fun n e => by cases e) h6
theorem erase_len {us : List Value} {ss : List Sca} {t : Sca} {j : Nat} (h : us.length = ss.length) (hj : FirstAt ss t j) : (us.eraseIdx j).length = (ss.eraseIdx j).length := by
  have := hj.1
  rw [List.length_eraseIdx_of_lt (by omega), List.length_eraseIdx_of_lt hj.1, h]
theorem erase_small {us : List Value} {j : Nat} (h : us.length ≤ 12) : (us.eraseIdx j).length ≤ 1000000 := by
  have := List.length_eraseIdx_le us j; omega

set_option maxRecDepth 100000 in
theorem implRemove_c (A : Option Addr) (c : Nat) (xs : List VT) (y : VT) (v : Value) (ss : List Sca) (t : Sca) (w : World) (h : kV.C w A xs.length xs) (hy : VR w v y) (hx : CanonL ss xs) (ht : Canon t y) (hf : ∀ s ∈ ss, s.fit) (hft : t.fit) (hn : xs.length ≤ 12) (hT : Thr w) (hL : Lim w) :
    Calls Tryz.prog 20 #[.slice A xs.length c, v] w (RemR w ss t) := by
  obtain ⟨A2, c2, A5, c5, rfl, _⟩ := hy.open
  obtain ⟨W0, hW0⟩ : ∃ W, W = w.alloc (.cells #[.int .i64 y.f0, .bool y.f1, .slice A2 y.f2.length c2, .int .u64 y.f3, .string y.f4, .slice A5 y.f5.length c5] 26) := ⟨_, rfl⟩
  have HB0 : Hid (Below w.heap.size w W0) := by rw [hW0]; exact Lib.hid ((Below.refl _ w).alloc (Nat.le_refl _) _)
  have HK0 : Hid (W0.heap[w.heap.size]? = some (.cells #[.int .i64 y.f0, .bool y.f1, .slice A2 y.f2.length c2, .int .u64 y.f3, .string y.f4, .slice A5 y.f5.length c5] 26 (0, 0))) := by rw [hW0]; exact Lib.hid (blk_new _ _)
  have HLO : Hid (Calls Tryz.prog 46 #[.slice A xs.length c] W0 fun e w1 => ∃ us g, e = .returned (.tuple #[.pointer (some ⟨g, 0, none⟩), .bool true]) ∧ us.length = xs.length ∧ W0.heap.size ≤ g ∧ g ≠ W0.heap.size ∧ EL w1 g W0.heap.size xs.length us ∧ SO W0 W0.heap.size xs.length ss us w1) := Lib.hid ((listOf_c A c xs W0 (Kd.C_below h HB0.out) (fun z hz => by
      obtain ⟨i, hi, rfl⟩ := List.getElem_of_mem hz
      exact (hx.2 i hi (by rw [← hx.1]; exact hi)).leaf) (by omega)).mono fun e w1 hr => by
    rcases hr with ⟨⟨i, hi, hno⟩, _⟩ | ⟨ss', us, g, h1, h2, h3, h4, h5, h6, h7, h8⟩
    · rw [(hx.2 i hi (by rw [← hx.1]; exact hi)).sca] at hno; cases hno
    · obtain rfl : ss' = ss := by
        refine List.ext_getElem (h2.trans hx.1) fun i k1 k2 => ?_
        have e1 := h1 i k1 (by rw [← h2]; exact k1)
        rw [(hx.2 i (by rw [← h2]; exact k1) k2).sca] at e1
        exact (Option.some.inj e1).symm
      exact ⟨us, g, h4, h3, h5, h6, h7, h8⟩)
  have HO : Hid (∀ W, Below w.heap.size w W → Calls Tryz.prog 47 #[.agg #[.int .i64 y.f0, .bool y.f1, .slice A2 y.f2.length c2, .int .u64 y.f3, .string y.f4, .slice A5 y.f5.length c5]] W fun e w' => ∃ T x, e = .returned (.tuple #[.iface T x, .bool true]) ∧ ScaV W.heap.size w' (.iface T x) t ∧ Below W.heap.size W w') := Lib.hid fun W hW => (one_c y _ W (hy.below hW) ht.leaf).mono fun e w' ⟨u, h1, h2, h3⟩ => by
    have hs := h2 t ht.sca
    obtain ⟨T, x, rfl⟩ := sca_one hs
    rw [ht.sca] at h1
    exact ⟨T, x, h1, hs, h3⟩
  have HF := Lib.hid hf
  have HFT := Lib.hid hft
  have HTL := Lib.hid (And.intro hT hL)
  have HX := Lib.hid hx
  clear h hy hx ht hf hft hT hL
  have HTW : Hid (∀ W, Below w.heap.size w W → Thr W ∧ Lim W) := Lib.hid fun W hW => ⟨HTL.out.1.below hW, HTL.out.2.below hW⟩
  by_cases hall : ∀ j, j < ss.length → qOf ss t j = false
  · have HA := Lib.hid hall
    clear hall
    go_enter Tryz.func20, Tryz.ntmps20
    go_wp2_with fail
    rw [← hW0]
    clear hW0
    go_wp2_with (first
      | (go_at_call 46; (with_reducible refine HLO.out.mono ?_); rintro e w1 ⟨us, g, rfl, hus, hg, hgM, hE, hS⟩; have H1 := Lib.hid (And.intro hus (And.intro hg (And.intro hgM (And.intro hE hS)))); obtain ⟨x0, x1, x2, x3, x4, x5⟩ := cells6 (blk_below HK0.out hS.low); clear hus hg hgM hE hS)
      | (go_at_call 47; (with_reducible refine (HO.out _ (HB0.out.trans (H1.out.2.2.2.2.low.mono HB0.out.size))).mono ?_); rintro e w2 ⟨T, x, rfl, hu, hb2⟩; have H2 := Lib.hid (And.intro hu hb2); clear hu hb2)
      | (go_at_call 48; (with_reducible refine (removeNone_c W0 w1 w2 W0.heap.size g xs.length us ss T x t H1.out.2.2.2.1 H1.out.2.2.2.2 H1.out.2.2.1 H2.out.2 H2.out.1 HF.out HFT.out (by rw [H1.out.1]; exact hn) H1.out.1.symm (HTW.out _ (HB0.out.trans ((H1.out.2.2.2.2.low.trans (H2.out.2.mono H1.out.2.2.2.2.low.size)).mono HB0.out.size))).1 (HTW.out _ (HB0.out.trans ((H1.out.2.2.2.2.low.trans (H2.out.2.mono H1.out.2.2.2.2.low.size)).mono HB0.out.size))).2 HA.out).mono ?_); rintro e w3 ⟨p, rfl, hb3⟩; have H3 := Lib.hid hb3; clear hb3)
      | (go_at_call 49; (with_reducible refine (behindErr_c _ _ _).mono ?_); rintro e w4 ⟨rfl, hw4⟩; have hw5 := hw4.symm; clear hw4; subst hw5))
    have hb := HB0.out.trans ((H1.out.2.2.2.2.low.trans (H2.out.2.mono H1.out.2.2.2.2.low.size)).mono HB0.out.size)
    exact bodyPost_ret (v := .tuple #[.slice none 0 0, .bool false, .bool true]) (by simp [results, Tryz.results20, go_sem]) rfl ⟨hb.trans (H3.out.mono hb.size), Or.inl ⟨HA.out, rfl⟩⟩
  · have HA := Lib.hid hall
    clear hall
    go_enter Tryz.func20, Tryz.ntmps20
    go_wp2_with fail
    rw [← hW0]
    clear hW0
    go_wp2_with (first
      | (go_at_call 46; (with_reducible refine HLO.out.mono ?_); rintro e w1 ⟨us, g, rfl, hus, hg, hgM, hE, hS⟩; have H1 := Lib.hid (And.intro hus (And.intro hg (And.intro hgM (And.intro hE hS)))); obtain ⟨x0, x1, x2, x3, x4, x5⟩ := cells6 (blk_below HK0.out hS.low); clear hus hg hgM hE hS)
      | (go_at_call 47; (with_reducible refine (HO.out _ (HB0.out.trans (H1.out.2.2.2.2.low.mono HB0.out.size))).mono ?_); rintro e w2 ⟨T, x, rfl, hu, hb2⟩; have H2 := Lib.hid (And.intro hu hb2); clear hu hb2)
      | (go_at_call 48; (with_reducible refine (removeAt_c W0 w1 w2 W0.heap.size g xs.length us ss T x t H1.out.2.2.2.1 H1.out.2.2.2.2 H1.out.2.2.1 H2.out.2 H2.out.1 HF.out HFT.out (by rw [H1.out.1]; exact hn) H1.out.1.symm (HTW.out _ (HB0.out.trans ((H1.out.2.2.2.2.low.trans (H2.out.2.mono H1.out.2.2.2.2.low.size)).mono HB0.out.size))).1 (HTW.out _ (HB0.out.trans ((H1.out.2.2.2.2.low.trans (H2.out.2.mono H1.out.2.2.2.2.low.size)).mono HB0.out.size))).2 HA.out).mono ?_); rintro e w3 ⟨rfl, j, hj, hE3, hB3, hs3⟩; have H3 := Lib.hid (And.intro hj (And.intro hE3 (And.intro hB3 hs3))); clear hj hE3 hB3 hs3)
      | (go_at_call 49; (with_reducible refine (behindOk_c _ _ _ _ (ss.eraseIdx j) (W0.heap.size + 1) _ H3.out.2.1 H3.out.2.2.2 (fun s h => HF.out s (List.mem_of_mem_eraseIdx h)) (erase_len H1.out.2.2.2.2.len H3.out.1) (erase_small (by rw [H1.out.1]; exact hn))).mono ?_); rintro e w4 ⟨M, ys, rfl, hys, hv⟩; have H4 := Lib.hid (And.intro hys hv); clear hys hv))
    have hb := HB0.out.trans ((H1.out.2.2.2.2.low.trans (H2.out.2.mono H1.out.2.2.2.2.low.size)).mono HB0.out.size)
    obtain ⟨hj, hE3, hB3, hs3⟩ := H3.out
    obtain ⟨hys, hv⟩ := H4.out
    have h01 := HB0.out.size
    have h12 := hb.size
    have hb3 : Below w.heap.size w w3 := (hb.alloc hb.size _).trans (hB3.low (B := w.heap.size) (by simp; omega) h01 (Nat.le_trans h01 H1.out.2.1))
    have hyl : ys.length ≤ 1000000 := by rw [hys]; exact erase_small (by rw [H1.out.1]; exact hn)
    exact bodyPost_ret (v := .tuple #[.slice (some ⟨M, 0, none⟩) ys.length ys.length, .bool true, .bool true]) (by simp [results, Tryz.results20, go_sem]) rfl ⟨hb3.trans (hv.low.mono hb3.size), Or.inr ⟨j, M, ys, hj, rfl, ⟨hv.len, hv.canon⟩, hv.rows hyl⟩⟩
end Go.Proofs.YtkplnbjgkhmbcaaGreatDoor
