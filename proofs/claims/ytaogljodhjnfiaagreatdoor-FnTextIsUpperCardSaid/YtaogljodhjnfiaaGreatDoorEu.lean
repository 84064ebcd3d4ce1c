/- The thin package's TextIsUpper: what the door to the method returns. -/
import Derived.Test.YtaogljodhjnfiaaGreatDoorDm
import Derived.Test.YtaogljodhjnfiaaGreatDoorCu
import Derived.RegionTactic
namespace Go.Proofs.YtaogljodhjnfiaaGreatDoor
open Go.RowKit
set_option linter.unusedVariables false

set_option maxRecDepth 100000 in
theorem unpackPos_none (nm : ByteArray) (w : World) :
    Calls Tryz.prog 39 #[.string nm, .slice none 0 0, .slice none 0 0, .int .i64 0, .slice none 0 0] w fun e w' => e = .returned .nilIface ∧ w = w' := by
  go_enter Tryz.func39, Tryz.ntmps39
  go_wp2
  refine wp_loop_rounds 1 ?_
  rw [rounds_succ]
  go_wp2
  go_ret
  exact ⟨rfl, rfl⟩

theorem assertString (v : Value) (w : World) : (Instr.typeAssert (.iface 73 v) 38 73 false).run Tryz.prog w = .ok v w := by kernel_rfl
set_option maxRecDepth 100000 in
theorem bind_any (n s : ByteArray) (fn : Fn) (a1 a2 : Array Value) (b : Nat) (w : World) (c0 : w.cell? ⟨b, 0, none⟩ = some (.string n)) (c1 : w.cell? ⟨b, 1, none⟩ = some (.func fn a1 a2)) :
    Calls Tryz.prog 38 #[.pointer (some ⟨b, 0, none⟩), .iface 73 (.string s)] w fun e w' => e = .returned (.pointer (some ⟨w.heap.size, 0, none⟩)) ∧ Below w.heap.size w w' ∧
      w'.cell? ⟨w.heap.size, 0, none⟩ = some (.string n) ∧ w'.cell? ⟨w.heap.size, 2, none⟩ = some (.iface 73 (.string s)) := by
  go_enter Tryz.func38, Tryz.ntmps38
  go_wp2
  go_region
  go_wp2
  go_ret
  exact ⟨rfl, ((Below.refl _ w).alloc (Nat.le_refl _) _).drew, by simp, by simp⟩


theorem assertBoolOk (v : Value) (w : World) : (Instr.typeAssert (.iface 47 v) 38 47 true).run Tryz.prog w = .ok (.tuple #[v, .bool true]) w := by kernel_rfl

theorem noLo_map (l : List UInt8) (h : noLo l = true) : l.map upByte = l := by
  unfold noLo at h
  rw [List.all_eq_true] at h
  have : ∀ c ∈ l, upByte c = c := by
    intro c hc
    have := h c hc
    unfold upByte
    simp at this
    rw [this]
    rfl
  conv => rhs; rw [← List.map_id l]
  exact List.map_congr_left this
theorem map_noLo (l : List UInt8) (h : noLo l = false) : l.map upByte ≠ l := by
  intro he
  unfold noLo at h
  rw [List.all_eq_false] at h
  obtain ⟨c, hc, hlo⟩ := h
  simp at hlo
  have key : ∀ l : List UInt8, l.map upByte = l → ∀ c ∈ l, upByte c = c := by
    intro l
    induction l with
    | nil => intro _ c hc; cases hc
    | cons x r ih =>
      intro h c hc
      rw [List.map_cons, List.cons.injEq] at h
      rcases List.mem_cons.1 hc with rfl | h2
      · exact h.1
      · exact ih h.2 c h2
  have h2 := key l he c hc
  have h3 := upByte_toNat c
  rw [h2] at h3
  simp [loB] at hlo
  unfold toUp at h3
  rw [if_pos (by omega)] at h3
  omega
theorem up_same (l : List UInt8) (h : noLo l = true) : anyLt l = anyUp l := by
  unfold noLo at h
  rw [List.all_eq_true] at h
  unfold anyLt anyUp ltB
  rw [Bool.eq_iff_iff, List.any_eq_true, List.any_eq_true]
  constructor
  · rintro ⟨c, hc, h2⟩
    have := h c hc
    simp at this
    rw [this, Bool.or_false] at h2
    exact ⟨c, hc, h2⟩
  · rintro ⟨c, hc, h2⟩
    exact ⟨c, hc, by rw [h2]; rfl⟩

theorem ofTruth_any (b : Bool) (w : World) :
    Calls Tryz.prog 8 #[.iface 47 (.bool b), .nilIface] w fun e w' => e = .returned (.tuple #[.bool b, .bool true]) ∧ Below w.heap.size w w' := by
  have has := assertBoolOk (.bool b)
  cases b
  all_goals
    go_enter Tryz.func8, Tryz.ntmps8
    go_wp2
    go_region
    go_wp2
    go_ret2
    exact ⟨rfl, (Below.refl _ w).drew⟩

set_option maxRecDepth 100000 in
set_option maxHeartbeats 4000000 in
theorem isupper_impl (s nm : ByteArray) (pb : Nat) (w : World) (hs : s.size ≤ 60) (hlow : ∀ j (h : j < s.size), s[j].toNat < 128)
    (c0 : w.cell? ⟨pb, 0, none⟩ = some (.string nm)) (c2 : w.cell? ⟨pb, 2, none⟩ = some (.iface 73 (.string s))) :
    Calls Tryz.prog 20 #[.pointer none, .pointer (some ⟨pb, 0, none⟩), .slice none 0 0, .slice none 0 0] w fun e w' =>
      e = .returned (.tuple #[.iface 47 (.bool (noLo s.data.toList && anyUp s.data.toList)), .nilIface]) ∧ Below w.heap.size w w' := by
  have has := assertString (.string s)
  have HL := Lib.hid hlow
  clear hlow
  cases hlt : anyLt s.data.toList
  · have HR : Hid ((noLo s.data.toList && anyUp s.data.toList) = false) := by
      show _ = _
      cases hn : noLo s.data.toList
      · rfl
      · rw [← up_same _ hn, hlt]; rfl
    have HC := Lib.hid hlt
    clear hlt
    go_enter Tryz.func20, Tryz.ntmps20
    go_wp2_with (first | (go_at_call 39; refine (unpackPos_none _ _).mono ?_; rintro e w' ⟨rfl, rfl⟩) | (go_at_call 40; go_in) | (go_at_call 41; go_in) | (go_at_call 42; refine (isCasedString_any s _ HL.out).mono ?_; rintro e w1 ⟨rfl, hb1⟩; rw [HC.out]))
    go_ret2
    exact ⟨by rw [HR.out]; rfl, hb1⟩
  · cases hn : noLo s.data.toList
    · have hne := map_noLo _ hn
      have HC := Lib.hid hlt
      clear hlt
      go_enter Tryz.func20, Tryz.ntmps20
      go_wp2_with (first | (go_at_call 39; refine (unpackPos_none _ _).mono ?_; rintro e w' ⟨rfl, rfl⟩) | (go_at_call 40; go_in) | (go_at_call 41; go_in) | (go_at_call 42; refine (isCasedString_any s _ HL.out).mono ?_; rintro e w1 ⟨rfl, hb1⟩; rw [HC.out]) | (go_at_call 43; refine (map_ascii s _ hs HL.out).mono ?_; rintro e w2 ⟨rfl, hb2⟩))
      go_ret2
      refine ⟨?_, hb1.trans (hb2.mono hb1.size)⟩
      have hb : (s.toList == List.map upByte s.data.toList) = false := by
        rw [beq_eq_false_iff_ne, Lib.toList_data]
        exact fun h => hne h.symm
      show Ending.returned (.tuple #[.iface _ (.bool (s.toList == List.map upByte s.data.toList)), .nilIface]) = _
      rw [hb]
      rfl
    · have heq : (⟨(s.data.toList.map upByte).toArray⟩ : ByteArray) = s := by rw [noLo_map _ hn]
      have hu : anyUp s.data.toList = true := by rw [← up_same _ hn]; exact hlt
      have HE := Lib.hid heq
      have HC := Lib.hid hlt
      have HU := Lib.hid hu
      clear hlt heq hu
      go_enter Tryz.func20, Tryz.ntmps20
      go_wp2_with (first | (go_at_call 39; refine (unpackPos_none _ _).mono ?_; rintro e w' ⟨rfl, rfl⟩) | (go_at_call 40; go_in) | (go_at_call 41; go_in) | (go_at_call 42; refine (isCasedString_any s _ HL.out).mono ?_; rintro e w1 ⟨rfl, hb1⟩; rw [HC.out]) | (go_at_call 43; refine (map_ascii s _ hs HL.out).mono ?_; rintro e w2 ⟨rfl, hb2⟩; rw [HE.out]))
      go_ret2
      exact ⟨by rw [HU.out]; rfl, hb1.trans (hb2.mono hb1.size)⟩

set_option maxRecDepth 100000 in
set_option maxHeartbeats 1000000 in
theorem textIsUpper_any (s : ByteArray) (w : World) (hs : s.size ≤ 60) (hlow : ∀ j (h : j < s.size), s[j].toNat < 128) :
    Calls Tryz.prog 6 #[.string s] w fun e w' => e = .returned (.tuple #[.bool (noLo s.data.toList && anyUp s.data.toList), .bool true]) ∧ Below w.heap.size w w' := by
  go_enter Tryz.func6, Tryz.ntmps6
  go_wp2_with (first | (go_at_call 9; go_in) | (go_at_call 19; go_in) | (go_at_call 37; go_in))
  have k0 : (w.alloc (.cells #[.string ⟨#[105, 115, 117, 112, 112, 101, 114]⟩, .func (.func 20) #[] #[], .nilIface] 93)).cell? ⟨w.heap.size, 0, none⟩ = some (.string ⟨#[105, 115, 117, 112, 112, 101, 114]⟩) := World.cell?_alloc_mark _ _ _ _ 0
  have k1 : (w.alloc (.cells #[.string ⟨#[105, 115, 117, 112, 112, 101, 114]⟩, .func (.func 20) #[] #[], .nilIface] 93)).cell? ⟨w.heap.size, 1, none⟩ = some (.func (.func 20) #[] #[]) := World.cell?_alloc_mark _ _ _ _ 1
  have hbd := bind_any _ s _ _ _ _ _ k0 k1
  have hz : (w.alloc (.cells #[.string ⟨#[105, 115, 117, 112, 112, 101, 114]⟩, .func (.func 20) #[] #[], .nilIface] 93)).heap.size = w.heap.size + 1 := by simp
  rw [hz] at hbd
  clear k0 k1 hz
  refine hbd.mono ?_
  rintro e w1 ⟨rfl, hb1, c0, c2⟩
  have hb : Below w.heap.size w w1 := ((Below.refl _ w).alloc (Nat.le_refl _) _).trans (hb1.mono (by omega))
  have hsz := hb.size
  have HL := Lib.hid hlow
  clear hlow
  go_wp2_with fail
  refine (isupper_impl _ _ _ w1 hs HL.out c0 c2).mono ?_
  rintro e w2 ⟨rfl, hb2⟩
  generalize hg : (noLo s.data.toList && anyUp s.data.toList) = g
  have HG := Lib.hid hg
  clear hg
  go_wp2_with (go_at_call 8; refine (ofTruth_any _ _).mono ?_; rintro e w3 ⟨rfl, hb3⟩)
  go_ret2
  exact ⟨by rw [HG.out]; rfl, (hb.trans (hb2.mono hsz)).trans (hb3.mono (by have := hb2.size; omega))⟩
end Go.Proofs.YtaogljodhjnfiaaGreatDoor
