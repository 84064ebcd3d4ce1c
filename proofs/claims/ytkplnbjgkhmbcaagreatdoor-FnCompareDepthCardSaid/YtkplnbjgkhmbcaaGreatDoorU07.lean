/- CmpC -/
import Derived.Test.YtkplnbjgkhmbcaaGreatDoorU06
import Derived.Deep.DeepCutAuto
namespace Go.Proofs.YtkplnbjgkhmbcaaGreatDoor
open Go.RowKit Go.Shelf Go.Proofs.YtkplnbjgkhmbcaaGreatDoorW.PrintWords Go.Proofs.YtkplnbjgkhmbcaaGreatDoorW.PrintLast Go.Proofs.YtkplnbjgkhmbcaaGreatDoorW.PrintMore
set_option linter.unusedVariables false
set_option linter.unusedSimpArgs false
structure IC (w0:World) (a b:Nat) (y1 y2:Int) (p1 p2:Option Addr) (w:World):Prop where
 b1:w.heap[a]?=some (.cells #[.int .i64 y1, .pointer p1] 122 (0,0))
 b2:w.heap[b]?=some (.cells #[.int .i64 y2, .pointer p2] 122 (0,0))
 low:Below w0.heap.size w0 w
section
variable {w0 w w':World} {a b:Nat} {y1 y2:Int} {p1 p2:Option Addr}
theorem IC.below (h:IC w0 a b y1 y2 p1 p2 w) (hb:Below w.heap.size w w'):IC w0 a b y1 y2 p1 p2 w':=⟨blk_below h.b1 hb,blk_below h.b2 hb,h.low.trans (hb.mono h.low.size)⟩
theorem IC.drew (h:IC w0 a b y1 y2 p1 p2 w):IC w0 a b y1 y2 p1 p2 w.drew:=h.below (Below.refl _ _).drew
theorem IC.cells (h:IC w0 a b y1 y2 p1 p2 w):w.cell? ⟨a,0,none⟩=some (.int .i64 y1)∧w.cell? ⟨a,1,none⟩=some (.pointer p1)∧w.cell? ⟨b,0,none⟩=some (.int .i64 y2)∧w.cell? ⟨b,1,none⟩=some (.pointer p2):=
 ⟨blk_cell h.b1 0 _ rfl,blk_cell h.b1 1 _ rfl,blk_cell h.b2 0 _ rfl,blk_cell h.b2 1 _ rfl⟩
end
set_option maxRecDepth 100000 in
set_option maxHeartbeats 1000000 in
theorem icmpBig_c (B1 B2:Nat) (y1 y2 x y d:Int) (p1 p2:Option Addr) (w:World) (hp:p1.isSome=true∨p2.isSome=true)
 (HG1:Hid (∀w',Below w.heap.size w w'→Calls Tryz.prog 327 #[.agg #[.int .i64 y1, .pointer p1]] w' (BigI B1 w' (.agg #[.int .i64 y1, .pointer p1]) x)))
 (HG2:Hid (∀w',Below w.heap.size w w'→Calls Tryz.prog 327 #[.agg #[.int .i64 y2, .pointer p2]] w' (BigI B2 w' (.agg #[.int .i64 y2, .pointer p2]) y)))
 (HD:Hid (∀(W1 W2:World) (g1 g2:Nat),w.heap.size≤W1.heap.size→g1<W2.heap.size→(W1.heap.size≤g1∨Value.agg #[.int .i64 y1, .pointer p1]= .agg #[.int .i64 0, .pointer (some ⟨g1,0,none⟩)])→(W2.heap.size≤g2∨Value.agg #[.int .i64 y2, .pointer p2]= .agg #[.int .i64 0, .pointer (some ⟨g2,0,none⟩)])→g1≠g2)):
 Calls Tryz.prog 321 #[.agg #[.int .i64 y1, .pointer p1], .iface 122 (.agg #[.int .i64 y2, .pointer p2]), .int .i64 d] w fun e w'=>e= .returned (.tuple #[.int .i64 (sgn (x-y)), .nilIface])∧Below w.heap.size w w':=by
 have hta:=assertInt1
 have HS:Hid (IC w w.heap.size (w.heap.size+1) y1 y2 p1 p2 ((w.alloc (.cells #[.int .i64 y1, .pointer p1] 122)).alloc (.cells #[.int .i64 y2, .pointer p2] 122))):=Lib.hid
  ⟨blk_alloc (blk_new _ _) _,by simpa using blk_new (w.alloc _) _,((Below.refl _ w).alloc (Nat.le_refl _) _).alloc (by simp) _⟩
 obtain⟨W,hW⟩: ∃W,W=(w.alloc (.cells #[.int .i64 y1, .pointer p1] 122)).alloc (.cells #[.int .i64 y2, .pointer p2] 122):=⟨_,rfl⟩
 rcases p1 with _|a1<;>rcases p2 with _|a2
 ·simp at hp
 all_goals
  clear hp
  go_enter Tryz.func321,Tryz.ntmps321
  go_upto_region 2 with fail
  rw[←hW] at HS⊢
  clear hW
  obtain⟨c1,c2,c3,c4⟩:=HS.out.cells
  go_upto_region 5 with(go_at_call 98;(with_reducible refine(get_c _ _ _).mono ?_);rintro e w1 ⟨rfl,hb1⟩;(replace HS:=Lib.hid (HS.out.below hb1));clear hb1 c1 c2 c3 c4;obtain⟨c1,c2,c3,c4⟩:=HS.out.cells)
  go_region_with (first
   |(go_at_call 327;(with_reducible refine(HG1.out _ HS.out.drew.low).mono ?_);rintro e w1 ⟨ga,na,va,za,rfl,ha1,ha2,ha3,ha4,hb1,hk1⟩;have HA:=Lib.hid (And.intro ha1 (And.intro ha2 (And.intro ha3 (And.intro ha4 (And.intro HS.out.low.size hk1)))));(replace HS:=Lib.hid (HS.out.drew.below hb1));clear ha1 ha2 ha3 ha4 hb1 hk1 c1 c2 c3 c4;obtain⟨c1,c2,c3,c4⟩:=HS.out.cells)
   |(go_at_call 327;(with_reducible refine(HG2.out _ HS.out.low).mono ?_);rintro e w1 ⟨gb,nb,vb,zb,rfl,ha1,ha2,ha3,ha4,hb1,hk1⟩;have HB:=Lib.hid (And.intro ha1 (And.intro ha2 (And.intro ha3 (And.intro ha4 (HD.out _ _ _ _ HA.out.2.2.2.2.1 HA.out.1.lt HA.out.2.2.2.2.2 hk1)))));(replace HS:=Lib.hid (HS.out.below hb1));have HA2:Hid (PI w1 ga 0 na va za):=HA.out.1.below hb1;clear ha1 ha2 ha3 ha4 hb1 hk1 c1 c2 c3 c4;obtain⟨c1,c2,c3,c4⟩:=HS.out.cells)
   |(go_at_call 104;(with_reducible refine(intCmp_c ga 0 gb 0 na nb va vb za zb _ HA2.out HB.out.1 HB.out.2.2.2.2 HA.out.2.2.2.1 HB.out.2.2.2.1 HA.out.2.1 HB.out.2.1).mono ?_);rintro e w2 ⟨rfl,n,rfl⟩;rw[HA.out.2.2.1,HB.out.2.2.1];replace HS:=Lib.hid HS.out.low;clear c1 c2 c3 c4))
  all_goals go_wp2
  all_goals go_ret2
  all_goals exact⟨rfl,pw_below_drewN HS.out _⟩
set_option maxRecDepth 100000 in
theorem icmp_c (B1 B2:Nat) (u1 u2:Value) (x y d:Int) (w:World) (h1:SIv B1 w u1 x) (h2:SIv B2 w u2 y) (hx:x.natAbs<256^60) (hy:y.natAbs<256^60)
 (hne: ∀g1 g2,u1= .agg #[.int .i64 0, .pointer (some ⟨g1,0,none⟩)]→u2= .agg #[.int .i64 0, .pointer (some ⟨g2,0,none⟩)]→g1≠g2):
 Calls Tryz.prog 321 #[u1, .iface 122 u2, .int .i64 d] w fun e w'=>e= .returned (.tuple #[.int .i64 (sgn (x-y)), .nilIface])∧Below w.heap.size w w':=by
 have HU2:Hid (∀g2,u2= .agg #[.int .i64 0, .pointer (some ⟨g2,0,none⟩)]→g2<w.heap.size):=Lib.hid fun g2 e=>by
  rcases h2 with⟨hs,rfl⟩|⟨hs,g,neg,v,zs,rfl,hg,hb,hv,hl⟩
  ·cases e
  ·cases e;exact lt_blk hb.blk
 have HD:Hid (∀(W1 W2:World) (g1 g2:Nat),w.heap.size≤W1.heap.size→g1<W2.heap.size→(W1.heap.size≤g1∨u1= .agg #[.int .i64 0, .pointer (some ⟨g1,0,none⟩)])→(W2.heap.size≤g2∨u2= .agg #[.int .i64 0, .pointer (some ⟨g2,0,none⟩)])→g1≠g2):=Lib.hid fun W1 W2 g1 g2 hw hl k1 k2=>by
  rcases k2 with k2|k2
  ·omega
  ·have:=HU2.out g2 k2
   rcases k1 with k1|k1
   ·omega
   ·exact hne g1 g2 k1 k2
 clear HU2 hne
 have HG1:=Lib.hid (fun w' (hb:Below w.heap.size w w')=>bigInt_c B1 u1 x w' (h1.below hb) hx)
 have HG2:=Lib.hid (fun w' (hb:Below w.heap.size w w')=>bigInt_c B2 u2 y w' (h2.below hb) hy)
 clear hx hy
 rcases h1 with⟨hs1,rfl⟩|⟨hs1,g1,neg1,v1,zs1,rfl,_⟩<;>rcases h2 with⟨hs2,rfl⟩|⟨hs2,g2,neg2,v2,zs2,rfl,_⟩
 ·have HR:=Lib.hid (fun w=>signum64_c (x-y) w (by unfold sml at hs1 hs2;simp at hs1 hs2;omega))
  have hxy: -2147483648≤x∧x≤2147483647∧ -2147483648≤y∧y≤2147483647:=by unfold sml at hs1 hs2;simp at hs1 hs2;omega
  have HS:Hid (IC w w.heap.size (w.heap.size+1) x y none none ((w.alloc (.cells #[.int .i64 x, .pointer none] 122)).alloc (.cells #[.int .i64 y, .pointer none] 122))):=Lib.hid
   ⟨blk_alloc (blk_new _ _) _,by simpa using blk_new (w.alloc _) _,((Below.refl _ w).alloc (Nat.le_refl _) _).alloc (by simp) _⟩
  clear HG1 HG2 HD hs1 hs2
  have hta:=assertInt1
  go_enter Tryz.func321,Tryz.ntmps321
  go_upto_region 2 with fail
  obtain⟨W,hW⟩: ∃W,W=(w.alloc (.cells #[.int .i64 x, .pointer none] 122)).alloc (.cells #[.int .i64 y, .pointer none] 122):=⟨_,rfl⟩
  rw[←hW] at HS⊢
  clear hW
  obtain⟨c1,c2,c3,c4⟩:=HS.out.cells
  go_wp2_with (first
   |(go_at_call 98;(with_reducible refine(get_c _ _ _).mono ?_);rintro e w1 ⟨rfl,hb1⟩;(replace HS:=Lib.hid (HS.out.below hb1));clear hb1 c1 c2 c3 c4;obtain⟨c1,c2,c3,c4⟩:=HS.out.cells)
   |(go_at_call 286;(with_reducible refine(HR.out _).mono ?_);rintro e w1 ⟨rfl,rfl⟩))
  go_ret2
  exact⟨rfl,HS.out.low⟩
 ·exact icmpBig_c B1 B2 _ _ x y d none (some _) w (Or.inr rfl) HG1 HG2 HD
 ·exact icmpBig_c B1 B2 _ _ x y d (some _) none w (Or.inl rfl) HG1 HG2 HD
 ·exact icmpBig_c B1 B2 _ _ x y d (some _) (some _) w (Or.inl rfl) HG1 HG2 HD
end Go.Proofs.YtkplnbjgkhmbcaaGreatDoor
