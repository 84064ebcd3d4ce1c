/- The thin package's TextTitle: what the door to the method returns. -/
import Derived.Test.YtaogljodhjnfiaaGreatD
namespace Go.Proofs.YtaogljodhjnfiaaGreat
open Go.RowKit
set_option linter.unusedVariables false

set_option maxRecDepth 100000 in
theorem bind_any (n s : ByteArray) (fn : Fn) (a1 a2 : Array Value) (b : Nat) (w : World) (c0 : w.cell? ⟨b, 0, none⟩ = some (.string n)) (c1 : w.cell? ⟨b, 1, none⟩ = some (.func fn a1 a2)) :
    Calls Tryz.prog 38 #[.pointer (some ⟨b, 0, none⟩), .iface 47 (.string s)] w fun e w' => e = .returned (.pointer (some ⟨w.heap.size, 0, none⟩)) ∧ Below w.heap.size w w' ∧
      w'.cell? ⟨w.heap.size, 0, none⟩ = some (.string n) ∧ w'.cell? ⟨w.heap.size, 2, none⟩ = some (.iface 47 (.string s)) := by
  go_enter Tryz.func38, Tryz.ntmps38
  go_wp2
  go_region
  go_wp2
  go_ret
  exact ⟨rfl, ((Below.refl _ w).alloc (Nat.le_refl _) _).drew, by simp, by simp⟩

theorem ofText_any (s : ByteArray) (w : World) :
    Calls Tryz.prog 8 #[.iface 47 (.string s), .nilIface] w fun e w' => e = .returned (.tuple #[.string s, .bool true]) ∧ w = w' := by
  have has := assertStringOk (.string s)
  go_enter Tryz.func8, Tryz.ntmps8
  go_wp2
  go_ret2
  exact ⟨rfl, rfl⟩

set_option maxRecDepth 100000 in
set_option maxHeartbeats 1000000 in
theorem textTitle_any (s : ByteArray) (w : World) (hs : s.size ≤ 60) (hlow : ∀ j (h : j < s.size), s[j].toNat < 128) :
    Calls Tryz.prog 6 #[.string s] w fun e w' => e = .returned (.tuple #[.string ⟨(titleL s.data.toList).toArray⟩, .bool true]) ∧ Below w.heap.size w w' := by
  go_enter Tryz.func6, Tryz.ntmps6
  go_wp2_with (first | (go_at_call 9; go_in) | (go_at_call 19; go_in) | (go_at_call 37; go_in))
  have k0 : (w.alloc (.cells #[.string ⟨#[116, 105, 116, 108, 101]⟩, .func (.func 20) #[] #[], .nilIface] 98)).cell? ⟨w.heap.size, 0, none⟩ = some (.string ⟨#[116, 105, 116, 108, 101]⟩) := World.cell?_alloc_mark _ _ _ _ 0
  have k1 : (w.alloc (.cells #[.string ⟨#[116, 105, 116, 108, 101]⟩, .func (.func 20) #[] #[], .nilIface] 98)).cell? ⟨w.heap.size, 1, none⟩ = some (.func (.func 20) #[] #[]) := World.cell?_alloc_mark _ _ _ _ 1
  have hbd := bind_any _ s _ _ _ _ _ k0 k1
  have hz : (w.alloc (.cells #[.string ⟨#[116, 105, 116, 108, 101]⟩, .func (.func 20) #[] #[], .nilIface] 98)).heap.size = w.heap.size + 1 := by simp
  rw [hz] at hbd
  clear k0 k1 hz
  refine hbd.mono ?_
  rintro e w1 ⟨rfl, hb1, c0, c2⟩
  have hb : Below w.heap.size w w1 := ((Below.refl _ w).alloc (Nat.le_refl _) _).trans (hb1.mono (by omega))
  have hsz := hb.size
  have HL := Lib.hid hlow
  clear hlow
  go_wp2_with fail
  refine (title_impl _ _ _ w1 hs HL.out c0 c2).mono ?_
  rintro e w2 ⟨rfl, hb2⟩
  go_wp2_with (go_at_call 8; refine (ofText_any _ _).mono ?_; rintro e w' ⟨rfl, rfl⟩)
  go_ret2
  exact ⟨rfl, hb.trans (hb2.mono hsz)⟩
end Go.Proofs.YtaogljodhjnfiaaGreat
