/- A Val in memory, as a tree; plain equality and order of such trees. -/
import Derived.Test.YtkplnbjgkhmbcaaGreatDoorM06
namespace Go.Proofs.YtkplnbjgkhmbcaaGreatDoor
open Go.RowKit Go.Proofs.YtkplnbjgkhmbcaaGreatDoorW.PrintWords Go.Proofs.YtkplnbjgkhmbcaaGreatDoorW.PrintLast Go.Proofs.YtkplnbjgkhmbcaaGreatDoorW.PrintMore Go.Proofs.YtkplnbjgkhmbcaaGreatDoor.PFnCompare Go.Proofs.YtkplnbjgkhmbcaaGreatDoor.PCmp Go.Proofs.YtkplnbjgkhmbcaaGreatDoor.PbytesOf Go.Proofs.YtkplnbjgkhmbcaaGreatDoor.Pcmp
set_option linter.unusedVariables false
set_option linter.unusedSimpArgs false

abbrev VT := S26
abbrev kV : Kd VT := k26
/-- The value v reads as the tree x. -/
def VR (w : World) (v : Value) (x : VT) : Prop := ∃ cs, v = .agg cs.toArray ∧ kV.K w x cs
/-- A value that the call has made from block B on. -/
def VM (B : Nat) (w : World) (v : Value) (x : VT) : Prop := ∃ cs, v = .agg cs.toArray ∧ kV.M w B (fun _ => True) x cs
theorem VM.r {B : Nat} {w : World} {v : Value} {x : VT} (h : VM B w v x) : VR w v x := by
  obtain ⟨cs, e, h⟩ := h
  exact ⟨cs, e, kV.K_of_M h⟩
theorem VR.below {w w' : World} {v : Value} {x : VT} (h : VR w v x) (hb : Below w.heap.size w w') : VR w' v x := by
  obtain ⟨cs, e, h⟩ := h
  exact ⟨cs, e, kV.K_below hb h⟩
theorem VR.drew {w : World} {v : Value} {x : VT} (h : VR w v x) : VR w.drew v x := h.below ((Below.refl _ _).drew)
theorem VM.below {B : Nat} {w w' : World} {v : Value} {x : VT} (h : VM B w v x) (hb : Below w.heap.size w w') : VM B w' v x := by
  obtain ⟨cs, e, h⟩ := h
  exact ⟨cs, e, Kd.M_below h hb⟩
theorem VM.lower {B B' : Nat} {w : World} {v : Value} {x : VT} (h : VM B w v x) (hB : B' ≤ B) : VM B' w v x := by
  obtain ⟨cs, e, h⟩ := h
  exact ⟨cs, e, kV.M_lower hB h⟩
/-- Its six cells. -/
theorem VR.open {w : World} {v : Value} {x : VT} (h : VR w v x) : ∃ A2 c2 A5 c5, v = .agg #[.int .i64 x.f0, .bool x.f1, .slice A2 x.f2.length c2, .int .u64 x.f3, .string x.f4, .slice A5 x.f5.length c5] ∧ x.f2.length ≤ c2 ∧ (Kd.int .u8).C w A2 x.f2.length x.f2 ∧ x.f5.length ≤ c5 ∧ kV.C w A5 x.f5.length x.f5 := by
  obtain ⟨cs, rfl, h⟩ := h
  obtain ⟨A2, c2, A5, c5, rfl, h1, h2, h3, h4⟩ := k26_open h
  exact ⟨A2, c2, A5, c5, rfl, h1, h2, h3, h4⟩
theorem VR.mk {w : World} (x : VT) {A2 A5 : Option Addr} {c2 c5 : Nat} (h1 : x.f2.length ≤ c2) (h2 : (Kd.int .u8).C w A2 x.f2.length x.f2) (h3 : x.f5.length ≤ c5) (h4 : kV.C w A5 x.f5.length x.f5) :
    VR w (.agg #[.int .i64 x.f0, .bool x.f1, .slice A2 x.f2.length c2, .int .u64 x.f3, .string x.f4, .slice A5 x.f5.length c5]) x :=
  ⟨_, rfl, k26_mk w x h1 h2 h3 h4⟩
/-- A row of bytes that is read, as mine. -/
theorem c_sl {k : IntKind} {w : World} {A : Option Addr} {l : List Int} {c : Nat} (h : (Kd.int k).C w A l.length l) (hc : l.length ≤ c) : Sl k 0 w (.slice A l.length c) l := by
  refine ⟨A, c, rfl, hc, h.2.1, fun hne => ?_⟩
  obtain ⟨b, o, rfl, hcell⟩ := c_get h hne
  have h0 := hcell 0 (List.length_pos_iff.2 hne)
  exact ⟨b, o, rfl, Nat.zero_le _, lt_of_cell h0, hcell⟩
/-- An element of a row of Vals. -/
theorem kid_at {w : World} {A : Option Addr} {n : Nat} {xs : List VT} (h : kV.C w A n xs) (i : Nat) (hi : i < xs.length) (hn : n = xs.length) :
    ∃ b o A2 c2 A5 c5, A = some ⟨b, o, none⟩ ∧ b < w.heap.size ∧
      w.cell? ⟨b, o + i * 6, none⟩ = some (.int .i64 xs[i].f0) ∧ w.cell? ⟨b, o + i * 6 + 1, none⟩ = some (.bool xs[i].f1) ∧ w.cell? ⟨b, o + i * 6 + 2, none⟩ = some (.slice A2 xs[i].f2.length c2) ∧ w.cell? ⟨b, o + i * 6 + 3, none⟩ = some (.int .u64 xs[i].f3) ∧ w.cell? ⟨b, o + i * 6 + 4, none⟩ = some (.string xs[i].f4) ∧ w.cell? ⟨b, o + i * 6 + 5, none⟩ = some (.slice A5 xs[i].f5.length c5) ∧
      VR w (.agg #[.int .i64 xs[i].f0, .bool xs[i].f1, .slice A2 xs[i].f2.length c2, .int .u64 xs[i].f3, .string xs[i].f4, .slice A5 xs[i].f5.length c5]) xs[i] := by
  subst hn
  obtain ⟨ad, c, rfl, hlen, hK, hc⟩ := Kd.C_get h xs[i] (i : Int) (by omega) (by omega)
  have e : xs.getD (i : Int).toNat xs[i] = xs[i] := by
    rw [Int.toNat_natCast, List.getD_eq_getElem?_getD, List.getElem?_eq_getElem hi]; rfl
  rw [e] at hK
  obtain ⟨A2, c2, A5, c5, rfl, l2, g2, l5, g5⟩ := k26_open hK
  have hsz : kV.sz = 6 := rfl
  rw [hsz, Int.toNat_natCast] at hc
  obtain ⟨b, o, sp⟩ := ad
  have hs : sp = none := by
    obtain ⟨ad2, c', e2, _, hK2, hc2⟩ := Kd.C_get h xs[0] 0 (by omega) (by omega)
    obtain ⟨B2, d2, B5, d5, rfl, _⟩ := k26_open hK2
    have h0 := hc2 0 _ rfl
    have e3 : ad2 = ⟨b, o, sp⟩ := (Option.some.inj e2).symm
    subst e3
    have h1 := World.cell?_spot h0
    simpa [Addr.add] using h1
  subst hs
  have ha : ∀ j, (⟨b, o, none⟩ : Addr).add j = ⟨b, o + j, none⟩ := fun j => by
    unfold Addr.add; split <;> simp_all
  simp only [ha] at hc
  have h0' := hc 0 _ rfl
  exact ⟨b, o, A2, c2, A5, c5, rfl, lt_of_cell h0', by simpa using hc 0 _ rfl, by rw [Nat.add_assoc]; exact hc 1 _ rfl, by rw [Nat.add_assoc]; exact hc 2 _ rfl, by rw [Nat.add_assoc]; exact hc 3 _ rfl, by rw [Nat.add_assoc]; exact hc 4 _ rfl, by rw [Nat.add_assoc]; exact hc 5 _ rfl, VR.mk _ l2 g2 l5 g5⟩

/-- Of each kind what it may hold. -/
structure Leaf (x : VT) : Prop where
  int : x.f0 = 2 → Good x.f1 x.f2
  bits : 0 ≤ x.f3 ∧ x.f3 < 18446744073709551616
  kind : 0 ≤ x.f0 ∧ x.f0 ≤ 9
  mag : Bytes x.f2 ∧ x.f2.length ≤ 2147483647
  many : x.f5.length ≤ 1000000
  pairs : x.f0 = 8 → x.f5.length % 2 = 0
/-- Well made, of at most n levels. -/
def Ok : Nat → VT → Prop
  | 0, _ => False
  | n + 1, x => Leaf x ∧ ∀ k ∈ x.f5, Ok n k
theorem Ok.leaf {n : Nat} {x : VT} (h : Ok n x) : Leaf x := by
  cases n with
  | zero => exact h.elim
  | succ n => exact h.1
/-- The numbers' order. -/
def ncmp (x y : VT) : Int :=
  if x.f0 = 2 then (if y.f0 = 2 then sgn (val x.f1 x.f2 - val y.f1 y.f2) else icmpF (val x.f1 x.f2) y.f3.toNat)
  else if y.f0 = 2 then - icmpF (val y.f1 y.f2) x.f3.toNat else fcmpF x.f3.toNat y.f3.toNat
def isNum (x : VT) : Bool := x.f0 == 2 || x.f0 == 3
/-- The first of kids, each step-th, that a test takes. -/
def findBy (e : VT → VT → Bool) (kids : List VT) (step : Nat) (key : VT) : Nat → Nat → Option Nat
  | 0, _ => none
  | k + 1, i => if h : i < kids.length then (if e kids[i] key then some i else findBy e kids step key k (i + step)) else none
def findV (e : VT → VT → Bool) (kids : List VT) (step : Nat) (key : VT) : Option Nat := findBy e kids step key (kids.length + 1) 0
def dictBy (e : VT → VT → Bool) (ys : List VT) : List VT → Bool
  | k :: v :: r => (match findV e ys 2 k with | none => false | some i => (match ys[i + 1]? with | none => false | some u => e v u)) && dictBy e ys r
  | _ => true
def all2 (e : VT → VT → Bool) : List VT → List VT → Bool
  | x :: r, y :: q => e x y && all2 e r q
  | _, _ => true
/-- Equality, as the language has it. -/
def eqV : Nat → VT → VT → Bool
  | 0, _, _ => false
  | n + 1, x, y =>
    if isNum x && isNum y then ncmp x y == 0
    else if x.f0 ≠ y.f0 ∨ x.f5.length ≠ y.f5.length then false
    else if x.f0 = 0 then true
    else if x.f0 = 1 then x.f3 == y.f3
    else if x.f0 = 8 then dictBy (eqV n) y.f5 x.f5
    else if x.f0 = 9 then x.f5.all (fun k => (findV (eqV n) y.f5 1 k).isSome)
    else all2 (eqV n) x.f5 y.f5 && x.f4 == y.f4
end Go.Proofs.YtkplnbjgkhmbcaaGreatDoor
