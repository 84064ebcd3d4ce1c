/- SpecCmp SpecCmpB SpecSeq SpecCmpT CdB CdC HtE EqF CdD CdE -/
import Derived.Test.YtkplnbjgkhmbcaaGreatDoorU20
import Derived.Test.YtkplnbjgkhmbcaaGreatDoorU16
import Derived.Test.YtkplnbjgkhmbcaaGreatDoorU14
import Derived.Test.YtkplnbjgkhmbcaaGreatDoorU18
namespace Go.Proofs.YtkplnbjgkhmbcaaGreatDoor
open Go.RowKit Go.Shelf Go.Proofs.YtkplnbjgkhmbcaaGreatDoorW.PrintWords Go.Proofs.YtkplnbjgkhmbcaaGreatDoorW.PrintLast Go.Proofs.YtkplnbjgkhmbcaaGreatDoorW.PrintMore Go.Proofs.YtkplnbjgkhmbcaaGreatDoor.PFnCompare Go.Proofs.YtkplnbjgkhmbcaaGreatDoor.PCmp Go.Proofs.YtkplnbjgkhmbcaaGreatDoor.PbytesOf
set_option linter.unusedVariables false
set_option linter.unusedSimpArgs false
def SCR (o:Option Bool) (e:Ending):Prop:=e= .returned (.tuple #[.bool (o.getD false), .bool o.isSome])
set_option maxRecDepth 100000 in
theorem scEq_c (k:Int) (hk:k=13∨k=14) (x y:VT) (v1 v2:Value) (E:Bool) (w:World) (h1:VR w v1 x) (h2:VR w v2 y)
 (hE: ∀W,Below w.heap.size w W→Calls Tryz.prog 30 #[v1,v2] W fun e W'=>e= .returned (.bool E)∧Below W.heap.size W W'):
 Calls Tryz.prog 13 #[.int .i64 k,v1,v2] w fun e w'=>SCR (some (if k=13 then E else !E)) e∧Below w.heap.size w w':=by
 obtain⟨A2,c2,A5,c5,rfl,_⟩:=h1.open
 obtain⟨P2,p2,P5,p5,rfl,_⟩:=h2.open
 have HE:=Lib.hid hE
 have H1:=Lib.hid (two_new w (six5 x A2 c2 A5 x.f5.length c5) (six5 y P2 p2 P5 y.f5.length p5))
 clear h1 h2 hE
 rcases hk with rfl|rfl
 all_goals
  go_enter Tryz.func13,Tryz.ntmps13
  go_wp2_with (go_at_call 30;(with_reducible refine(HE.out _ H1.out.1).mono ?_);rintro e w1 ⟨rfl,hb1⟩;have HB1:=Lib.hid (H1.out.1.trans (hb1.mono H1.out.1.size));clear hb1;cases E)
  all_goals
   go_ret2
   exact⟨rfl,HB1.out⟩
set_option maxRecDepth 100000 in
theorem scNum_c (k:Int) (hk:KOk k) (h13: ¬k=13) (h14: ¬k=14) (x y:VT) (v1 v2:Value) (w:World) (h1:VR w v1 x) (h2:VR w v2 y) (hx:Leaf x) (hy:Leaf y) (nx:isNum x=true) (ny:isNum y=true):
 Calls Tryz.prog 13 #[.int .i64 k,v1,v2] w fun e w'=>SCR (some (tw (tokOf k) (ncmp x y))) e∧Below w.heap.size w w':=by
 have HV:=Lib.hid (And.intro h1 h2)
 have HC:=Lib.hid (fun W (hW:Below w.heap.size w W)=>cmpNumbers_c v1 v2 x y W (h1.below hW) (h2.below hW) hx hy nx ny)
 have HN:Hid (∀W,Below w.heap.size w W→(Calls Tryz.prog 31 #[v1] W fun e W'=>e= .returned (.bool true)∧Below W.heap.size W W')∧(Calls Tryz.prog 31 #[v2] W fun e W'=>e= .returned (.bool true)∧Below W.heap.size W W')):=Lib.hid fun W hW=>⟨by have:=number_c v1 x W (h1.below hW);rw[nx] at this;exact this,by have:=number_c v2 y W (h2.below hW);rw[ny] at this;exact this⟩
 obtain⟨A2,c2,A5,c5,rfl,_⟩:=h1.open
 obtain⟨P2,p2,P5,p5,rfl,_⟩:=h2.open
 have H1:=Lib.hid (two_new w (six5 x A2 c2 A5 x.f5.length c5) (six5 y P2 p2 P5 y.f5.length p5))
 obtain⟨W1,hW1⟩: ∃W,W=(w.alloc (.cells (six5 x A2 c2 A5 x.f5.length c5) 26)).alloc (.cells (six5 y P2 p2 P5 y.f5.length p5) 26):=⟨_,rfl⟩
 rw[←hW1] at H1
 have q1:(k==13)=false:=by simp[h13]
 have q2:(k==14)=false:=by simp[h14]
 have HH:=Lib.hid (fun c w=>holds_c k c w hk)
 clear h1 h2 hx hy nx ny HV hk h13 h14
 go_enter Tryz.func13,Tryz.ntmps13
 go_wp2_with fail
 rw[←hW1]
 clear hW1
 with_reducible refine(HN.out _ H1.out.1).1.mono ?_
 rintro e w1 ⟨rfl,hb1⟩
 have HX:=Lib.hid (And.intro (blk_below H1.out.2.1 hb1) (blk_below H1.out.2.2 hb1))
 have HB:=Lib.hid (H1.out.1.trans (hb1.mono H1.out.1.size))
 clear hb1
 obtain⟨z0,z1,z2,z3,z4,z5⟩:=cells6 HX.out.1
 obtain⟨y0,y1,y2,y3,y4,y5⟩:=cells6 HX.out.2
 go_wp2_with (go_at_call 31;(with_reducible refine(HN.out _ HB.out).2.mono ?_);rintro e w2 ⟨rfl,hb1⟩;clear z0 z1 z2 z3 z4 z5 y0 y1 y2 y3 y4 y5;(replace HX:=Lib.hid (And.intro (blk_below HX.out.1 hb1) (blk_below HX.out.2 hb1)));(replace HB:=Lib.hid (HB.out.trans (hb1.mono HB.out.size)));clear hb1;obtain⟨z0,z1,z2,z3,z4,z5⟩:=cells6 HX.out.1;obtain⟨y0,y1,y2,y3,y4,y5⟩:=cells6 HX.out.2)
 go_wp2_with (first
  |(go_at_call 33;(with_reducible refine(HC.out _ HB.out).mono ?_);rintro e w3 ⟨rfl,hb1⟩;(replace HB:=Lib.hid (HB.out.trans (hb1.mono HB.out.size)));clear hb1)
  |(go_at_call 32;(with_reducible refine(HH.out _ _).mono ?_);rintro e w4 ⟨rfl,hw4⟩;have HW:=Lib.hid hw4;clear hw4))
 go_ret2
 exact⟨rfl,by rw[HW.out];exact HB.out⟩
set_option maxRecDepth 100000 in
set_option maxHeartbeats 1000000 in
theorem scKind_c (k:Int) (hk:KOk k) (h13: ¬k=13) (h14: ¬k=14) (x y:VT) (v1 v2:Value) (w:World) (h1:VR w v1 x) (h2:VR w v2 y) (hn:(isNum x&&isNum y)=false) (hne: ¬x.f0=y.f0):
 Calls Tryz.prog 13 #[.int .i64 k,v1,v2] w fun e w'=>SCR (none) e∧Below w.heap.size w w':=by
 have HV:=Lib.hid (And.intro h1 h2)
 have HN:Hid (∀W,Below w.heap.size w W→(Calls Tryz.prog 31 #[v1] W fun e W'=>e= .returned (.bool (isNum x))∧Below W.heap.size W W')∧(Calls Tryz.prog 31 #[v2] W fun e W'=>e= .returned (.bool (isNum y))∧Below W.heap.size W W')):=Lib.hid fun W hW=>⟨number_c v1 x W (h1.below hW),number_c v2 y W (h2.below hW)⟩
 obtain⟨A2,c2,A5,c5,rfl,_⟩:=h1.open
 obtain⟨P2,p2,P5,p5,rfl,_⟩:=h2.open
 have H1:=Lib.hid (two_new w (six5 x A2 c2 A5 x.f5.length c5) (six5 y P2 p2 P5 y.f5.length p5))
 obtain⟨W1,hW1⟩: ∃W,W=(w.alloc (.cells (six5 x A2 c2 A5 x.f5.length c5) 26)).alloc (.cells (six5 y P2 p2 P5 y.f5.length p5) 26):=⟨_,rfl⟩
 rw[←hW1] at H1
 have q1:(k==13)=false:=by simp[h13]
 have q2:(k==14)=false:=by simp[h14]
 have q3:(x.f0 !=y.f0)=true:=by simp[hne]
 clear h1 h2 HV hk h13 h14 hne
 obtain⟨bx,hbx⟩: ∃b,isNum x=b:=⟨_,rfl⟩
 obtain⟨bY,hbY⟩: ∃b,isNum y=b:=⟨_,rfl⟩
 rw[hbx,hbY] at HN hn
 clear hbx hbY
 go_enter Tryz.func13,Tryz.ntmps13
 go_wp2_with fail
 rw[←hW1]
 clear hW1
 with_reducible refine(HN.out _ H1.out.1).1.mono ?_
 rintro e w1 ⟨rfl,hb1⟩
 have HX:=Lib.hid (And.intro (blk_below H1.out.2.1 hb1) (blk_below H1.out.2.2 hb1))
 have HB:=Lib.hid (H1.out.1.trans (hb1.mono H1.out.1.size))
 clear hb1
 obtain⟨z0,z1,z2,z3,z4,z5⟩:=cells6 HX.out.1
 obtain⟨y0,y1,y2,y3,y4,y5⟩:=cells6 HX.out.2
 cases bx
 ·clear hn
  go_wp2_with fail
  go_ret2
  exact⟨rfl,HB.out⟩
 ·obtain rfl:bY=false:=hn
  go_wp2_with (go_at_call 31;(with_reducible refine(HN.out _ HB.out).2.mono ?_);rintro e w2 ⟨rfl,hb1⟩;clear z0 z1 z2 z3 z4 z5 y0 y1 y2 y3 y4 y5;(replace HX:=Lib.hid (And.intro (blk_below HX.out.1 hb1) (blk_below HX.out.2 hb1)));(replace HB:=Lib.hid (HB.out.trans (hb1.mono HB.out.size)));clear hb1;obtain⟨z0,z1,z2,z3,z4,z5⟩:=cells6 HX.out.1;obtain⟨y0,y1,y2,y3,y4,y5⟩:=cells6 HX.out.2)
  go_ret2
  exact⟨rfl,HB.out⟩
set_option maxRecDepth 100000 in
set_option maxHeartbeats 1000000 in
theorem scNo_c (k:Int) (hk:KOk k) (h13: ¬k=13) (h14: ¬k=14) (x y:VT) (v1 v2:Value) (w:World) (h1:VR w v1 x) (h2:VR w v2 y) (hkk:x.f0=0∧y.f0=0∨x.f0=8∧y.f0=8):
 Calls Tryz.prog 13 #[.int .i64 k,v1,v2] w fun e w'=>SCR (none) e∧Below w.heap.size w w':=by
 have HV:=Lib.hid (And.intro h1 h2)
 have HN:Hid (∀W,Below w.heap.size w W→(Calls Tryz.prog 31 #[v1] W fun e W'=>e= .returned (.bool (isNum x))∧Below W.heap.size W W')∧(Calls Tryz.prog 31 #[v2] W fun e W'=>e= .returned (.bool (isNum y))∧Below W.heap.size W W')):=Lib.hid fun W hW=>⟨number_c v1 x W (h1.below hW),number_c v2 y W (h2.below hW)⟩
 obtain⟨A2,c2,A5,c5,rfl,_⟩:=h1.open
 obtain⟨P2,p2,P5,p5,rfl,_⟩:=h2.open
 have H1:=Lib.hid (two_new w (six5 x A2 c2 A5 x.f5.length c5) (six5 y P2 p2 P5 y.f5.length p5))
 obtain⟨W1,hW1⟩: ∃W,W=(w.alloc (.cells (six5 x A2 c2 A5 x.f5.length c5) 26)).alloc (.cells (six5 y P2 p2 P5 y.f5.length p5) 26):=⟨_,rfl⟩
 rw[←hW1] at H1
 have q1:(k==13)=false:=by simp[h13]
 have q2:(k==14)=false:=by simp[h14]
 have hnx:isNum x=false:=by
  unfold isNum
  rcases hkk with⟨hkk,_⟩|⟨hkk,_⟩
  all_goals(rw[hkk];rfl)
 rw[hnx] at HN
 clear hnx h1 h2 HV hk h13 h14
 obtain⟨a0,a1,a2,a3,a4,a5⟩:=x
 obtain⟨b0,b1,b2,b3,b4,b5⟩:=y
 dsimp only at*
 rcases hkk with⟨rfl,rfl⟩|⟨rfl,rfl⟩
 all_goals
  go_enter Tryz.func13,Tryz.ntmps13
  go_wp2_with fail
  rw[←hW1]
  clear hW1
  with_reducible refine(HN.out _ H1.out.1).1.mono ?_
  rintro e w1 ⟨rfl,hb1⟩
  have HX:=Lib.hid (And.intro (blk_below H1.out.2.1 hb1) (blk_below H1.out.2.2 hb1))
  have HB:=Lib.hid (H1.out.1.trans (hb1.mono H1.out.1.size))
  clear hb1
  obtain⟨z0,z1,z2,z3,z4,z5⟩:=cells6 HX.out.1
  obtain⟨y0,y1,y2,y3,y4,y5⟩:=cells6 HX.out.2
  go_wp2_with fail
  go_ret2
  exact⟨rfl,HB.out⟩
set_option maxRecDepth 100000 in
set_option maxHeartbeats 1000000 in
theorem scBool_c (k:Int) (hk:KOk k) (h13: ¬k=13) (h14: ¬k=14) (x y:VT) (v1 v2:Value) (w:World) (h1:VR w v1 x) (h2:VR w v2 y) (hkk:x.f0=1∧y.f0=1) (hx:x.f3=0∨x.f3=1) (hy:y.f3=0∨y.f3=1):
 Calls Tryz.prog 13 #[.int .i64 k,v1,v2] w fun e w'=>SCR (some (tw (tokOf k) (sgn (x.f3-y.f3)))) e∧Below w.heap.size w w':=by
 have HV:=Lib.hid (And.intro h1 h2)
 have HN:Hid (∀W,Below w.heap.size w W→(Calls Tryz.prog 31 #[v1] W fun e W'=>e= .returned (.bool (isNum x))∧Below W.heap.size W W')∧(Calls Tryz.prog 31 #[v2] W fun e W'=>e= .returned (.bool (isNum y))∧Below W.heap.size W W')):=Lib.hid fun W hW=>⟨number_c v1 x W (h1.below hW),number_c v2 y W (h2.below hW)⟩
 have HH:=Lib.hid (fun c w=>holds_c k c w hk)
 obtain⟨A2,c2,A5,c5,rfl,_⟩:=h1.open
 obtain⟨P2,p2,P5,p5,rfl,_⟩:=h2.open
 have H1:=Lib.hid (two_new w (six5 x A2 c2 A5 x.f5.length c5) (six5 y P2 p2 P5 y.f5.length p5))
 obtain⟨W1,hW1⟩: ∃W,W=(w.alloc (.cells (six5 x A2 c2 A5 x.f5.length c5) 26)).alloc (.cells (six5 y P2 p2 P5 y.f5.length p5) 26):=⟨_,rfl⟩
 rw[←hW1] at H1
 have q1:(k==13)=false:=by simp[h13]
 have q2:(k==14)=false:=by simp[h14]
 have hnx:isNum x=false:=by
  unfold isNum
  obtain⟨hkk,_⟩:=hkk
  rw[hkk];rfl
 rw[hnx] at HN
 clear hnx h1 h2 HV hk h13 h14
 obtain⟨a0,a1,a2,a3,a4,a5⟩:=x
 obtain⟨b0,b1,b2,b3,b4,b5⟩:=y
 dsimp only at*
 obtain⟨rfl,rfl⟩:=hkk
 go_enter Tryz.func13,Tryz.ntmps13
 go_wp2_with fail
 rw[←hW1]
 clear hW1
 with_reducible refine(HN.out _ H1.out.1).1.mono ?_
 rintro e w1 ⟨rfl,hb1⟩
 have HX:=Lib.hid (And.intro (blk_below H1.out.2.1 hb1) (blk_below H1.out.2.2 hb1))
 have HB:=Lib.hid (H1.out.1.trans (hb1.mono H1.out.1.size))
 clear hb1
 obtain⟨z0,z1,z2,z3,z4,z5⟩:=cells6 HX.out.1
 obtain⟨y0,y1,y2,y3,y4,y5⟩:=cells6 HX.out.2
 have t0:wrap64 (bits .and .u64 0 1)=0:=by kernel_rfl
 have t1:wrap64 (bits .and .u64 1 1)=1:=by kernel_rfl
 have HT:=Lib.hid (And.intro t0 t1)
 clear t0 t1
 rcases hx with rfl|rfl<;>rcases hy with rfl|rfl
 all_goals
  go_wp2_with (first|(go_at_call 34;(with_reducible refine(cmpLengths_c _ _ _).mono ?_);rintro e w3 ⟨he,hw3⟩;simp only[HT.out.1,HT.out.2] at he;subst he;obtain rfl:=hw3)|(go_at_call 32;(with_reducible refine(HH.out _ _).mono ?_);rintro e w4 ⟨rfl,hw4⟩;have HW:=Lib.hid hw4;clear hw4))
  go_ret2
  exact⟨rfl,by rw[HW.out];exact HB.out⟩
set_option maxRecDepth 100000 in
set_option maxHeartbeats 1000000 in
theorem scText_c (k:Int) (hk:KOk k) (h13: ¬k=13) (h14: ¬k=14) (x y:VT) (v1 v2:Value) (w:World) (h1:VR w v1 x) (h2:VR w v2 y) (hkk:x.f0=4∧y.f0=4∨x.f0=5∧y.f0=5) (hx:x.f4.size≤2147483647) (hy:y.f4.size≤2147483647):
 Calls Tryz.prog 13 #[.int .i64 k,v1,v2] w fun e w'=>SCR (some (tw (tokOf k) (Lib.compareBytes x.f4.data.toList y.f4.data.toList))) e∧Below w.heap.size w w':=by
 have HV:=Lib.hid (And.intro h1 h2)
 have HN:Hid (∀W,Below w.heap.size w W→(Calls Tryz.prog 31 #[v1] W fun e W'=>e= .returned (.bool (isNum x))∧Below W.heap.size W W')∧(Calls Tryz.prog 31 #[v2] W fun e W'=>e= .returned (.bool (isNum y))∧Below W.heap.size W W')):=Lib.hid fun W hW=>⟨number_c v1 x W (h1.below hW),number_c v2 y W (h2.below hW)⟩
 have HH:=Lib.hid (fun c w=>holds_c k c w hk)
 have HT:=Lib.hid (fun w=>cmpTexts_c x.f4 y.f4 w hx hy)
 obtain⟨A2,c2,A5,c5,rfl,_⟩:=h1.open
 obtain⟨P2,p2,P5,p5,rfl,_⟩:=h2.open
 have H1:=Lib.hid (two_new w (six5 x A2 c2 A5 x.f5.length c5) (six5 y P2 p2 P5 y.f5.length p5))
 obtain⟨W1,hW1⟩: ∃W,W=(w.alloc (.cells (six5 x A2 c2 A5 x.f5.length c5) 26)).alloc (.cells (six5 y P2 p2 P5 y.f5.length p5) 26):=⟨_,rfl⟩
 rw[←hW1] at H1
 have q1:(k==13)=false:=by simp[h13]
 have q2:(k==14)=false:=by simp[h14]
 have hnx:isNum x=false:=by
  unfold isNum
  rcases hkk with⟨hkk,_⟩|⟨hkk,_⟩
  all_goals(rw[hkk];rfl)
 rw[hnx] at HN
 clear hnx h1 h2 HV hk h13 h14
 obtain⟨a0,a1,a2,a3,a4,a5⟩:=x
 obtain⟨b0,b1,b2,b3,b4,b5⟩:=y
 dsimp only at*
 rcases hkk with⟨rfl,rfl⟩|⟨rfl,rfl⟩
 all_goals
  go_enter Tryz.func13,Tryz.ntmps13
  go_wp2_with fail
  rw[←hW1]
  clear hW1
  with_reducible refine(HN.out _ H1.out.1).1.mono ?_
  rintro e w1 ⟨rfl,hb1⟩
  have HX:=Lib.hid (And.intro (blk_below H1.out.2.1 hb1) (blk_below H1.out.2.2 hb1))
  have HB:=Lib.hid (H1.out.1.trans (hb1.mono H1.out.1.size))
  clear hb1
  obtain⟨z0,z1,z2,z3,z4,z5⟩:=cells6 HX.out.1
  obtain⟨y0,y1,y2,y3,y4,y5⟩:=cells6 HX.out.2
  go_wp2_with (first|(go_at_call 35;(with_reducible refine(HT.out _).mono ?_);rintro e w3 ⟨rfl,hb1⟩;(replace HB:=Lib.hid (HB.out.trans (hb1.mono HB.out.size)));clear hb1)|(go_at_call 32;(with_reducible refine(HH.out _ _).mono ?_);rintro e w4 ⟨rfl,hw4⟩;have HW:=Lib.hid hw4;clear hw4))
  go_ret2
  exact⟨rfl,by rw[HW.out];exact HB.out⟩
set_option maxRecDepth 100000 in
set_option maxHeartbeats 1000000 in
theorem scSet_c (k:Int) (hk:KOk k) (h13: ¬k=13) (h14: ¬k=14) (x y:VT) (v1 v2:Value) (w:World) (h1:VR w v1 x) (h2:VR w v2 y) (hkk:x.f0=9∧y.f0=9) (ab ba:Bool) (ha: ∀W,Below w.heap.size w W→Calls Tryz.prog 66 #[v1,v2] W fun e W'=>e= .returned (.bool ab)∧Below W.heap.size W W') (hb: ∀W,Below w.heap.size w W→Calls Tryz.prog 66 #[v2,v1] W fun e W'=>e= .returned (.bool ba)∧Below W.heap.size W W'):
 Calls Tryz.prog 13 #[.int .i64 k,v1,v2] w fun e w'=>SCR (some (subO k ab ba x.f5.length y.f5.length)) e∧Below w.heap.size w w':=by
 have HV:=Lib.hid (And.intro h1 h2)
 have HN:Hid (∀W,Below w.heap.size w W→(Calls Tryz.prog 31 #[v1] W fun e W'=>e= .returned (.bool (isNum x))∧Below W.heap.size W W')∧(Calls Tryz.prog 31 #[v2] W fun e W'=>e= .returned (.bool (isNum y))∧Below W.heap.size W W')):=Lib.hid fun W hW=>⟨number_c v1 x W (h1.below hW),number_c v2 y W (h2.below hW)⟩
 have HS:=Lib.hid (fun W (hW:Below w.heap.size w W)=>subsets_c k x y v1 v2 ab ba W (by unfold KOk at hk;omega) (h1.below hW) (h2.below hW) (fun W' hW'=>ha W' (hW.trans (hW'.mono hW.size))) (fun W' hW'=>hb W' (hW.trans (hW'.mono hW.size))))
 clear ha hb
 obtain⟨A2,c2,A5,c5,rfl,_⟩:=h1.open
 obtain⟨P2,p2,P5,p5,rfl,_⟩:=h2.open
 have H1:=Lib.hid (two_new w (six5 x A2 c2 A5 x.f5.length c5) (six5 y P2 p2 P5 y.f5.length p5))
 obtain⟨W1,hW1⟩: ∃W,W=(w.alloc (.cells (six5 x A2 c2 A5 x.f5.length c5) 26)).alloc (.cells (six5 y P2 p2 P5 y.f5.length p5) 26):=⟨_,rfl⟩
 rw[←hW1] at H1
 have q1:(k==13)=false:=by simp[h13]
 have q2:(k==14)=false:=by simp[h14]
 have hnx:isNum x=false:=by
  unfold isNum
  obtain⟨hkk,_⟩:=hkk
  rw[hkk];rfl
 rw[hnx] at HN
 clear hnx h1 h2 HV hk h13 h14
 obtain⟨a0,a1,a2,a3,a4,a5⟩:=x
 obtain⟨b0,b1,b2,b3,b4,b5⟩:=y
 dsimp only at*
 obtain⟨rfl,rfl⟩:=hkk
 go_enter Tryz.func13,Tryz.ntmps13
 go_wp2_with fail
 rw[←hW1]
 clear hW1
 with_reducible refine(HN.out _ H1.out.1).1.mono ?_
 rintro e w1 ⟨rfl,hb1⟩
 have HX:=Lib.hid (And.intro (blk_below H1.out.2.1 hb1) (blk_below H1.out.2.2 hb1))
 have HB:=Lib.hid (H1.out.1.trans (hb1.mono H1.out.1.size))
 clear hb1
 obtain⟨z0,z1,z2,z3,z4,z5⟩:=cells6 HX.out.1
 obtain⟨y0,y1,y2,y3,y4,y5⟩:=cells6 HX.out.2
 go_wp2_with (go_at_call 36;(with_reducible refine(HS.out _ HB.out).mono ?_);rintro e w3 ⟨rfl,hb1⟩;(replace HB:=Lib.hid (HB.out.trans (hb1.mono HB.out.size)));clear hb1)
 go_ret2
 exact⟨rfl,HB.out⟩
theorem tw_sgn {k:Int} (h:KOk k) (h13: ¬k=13) (h14: ¬k=14) (c:Int):tw (tokOf k) (sgn c)=tw (tokOf k) c:=by
 unfold KOk at h
 rcases Int.lt_trichotomy c 0 with hc|hc|hc
 ·have e:sgn c= -1:=by unfold sgn;rw[if_pos hc]
  rw[e]
  rcases h with rfl|rfl|rfl|rfl|rfl|rfl
  ·exact absurd rfl h13
  ·exact absurd rfl h14
  all_goals simp[tokOf,tw]<;>omega
 ·subst hc;rfl
 ·have e:sgn c=1:=by unfold sgn;rw[if_neg (by omega),if_neg (by omega)]
  rw[e]
  rcases h with rfl|rfl|rfl|rfl|rfl|rfl
  ·exact absurd rfl h13
  ·exact absurd rfl h14
  all_goals simp[tokOf,tw]<;>omega
theorem tok_ne {k:Int} (h:KOk k) (h13: ¬k=13) (h14: ¬k=14): ¬tokOf k=37∧ ¬tokOf k=38:=by
 unfold KOk at h
 rcases h with rfl|rfl|rfl|rfl|rfl|rfl
 ·exact absurd rfl h13
 ·exact absurd rfl h14
 all_goals(unfold tokOf;decide)
theorem sliceO_end {op:Int} {n m j:Nat} {E:Nat→Bool} {O:Nat→Option Bool} (ho: ¬op=37∧ ¬op=38) (h1:j≤n) (h2:j≤m) (hj: ¬(j<n∧j<m)) (ha: ∀q,q<j→E q=true):sliceO op n m E O=some (tw op ((n:Int)-m)):=by
 unfold sliceO
 rw[if_neg (by rintro⟨_,h|h⟩;exact ho.1 h;exact ho.2 h),firstNo_none _ _ fun q _ hq=>ha q (by omega)]
set_option maxRecDepth 100000 in
set_option maxHeartbeats 1000000 in
theorem scSeq_c (k:Int) (hk:KOk k) (h13: ¬k=13) (h14: ¬k=14) (x y:VT) (v1 v2:Value) (w:World) (h1:VR w v1 x) (h2:VR w v2 y) (hkk:x.f0=6∧y.f0=6∨x.f0=7∧y.f0=7) (hn1:x.f5.length≤1000000) (hn2:y.f5.length≤1000000) (E:Nat→Bool) (O:Nat→Option Bool)
 (hE: ∀W,Below w.heap.size w W→ ∀i (hi:i<x.f5.length) (hi2:i<y.f5.length) u v',VR W u x.f5[i]→VR W v' y.f5[i]→Calls Tryz.prog 30 #[u,v'] W fun e W'=>e= .returned (.bool (E i))∧Below W.heap.size W W')
 (hO: ∀W,Below w.heap.size w W→ ∀i (hi:i<x.f5.length) (hi2:i<y.f5.length) u v',VR W u x.f5[i]→VR W v' y.f5[i]→Calls Tryz.prog 13 #[.int .i64 k,u,v'] W fun e W'=>SCR (O i) e∧Below W.heap.size W W'):
 Calls Tryz.prog 13 #[.int .i64 k,v1,v2] w fun e w'=>SCR (sliceO (tokOf k) x.f5.length y.f5.length E O) e∧Below w.heap.size w w':=by
 have HV:=Lib.hid (And.intro h1 h2)
 have HN:Hid (∀W,Below w.heap.size w W→(Calls Tryz.prog 31 #[v1] W fun e W'=>e= .returned (.bool (isNum x))∧Below W.heap.size W W')∧(Calls Tryz.prog 31 #[v2] W fun e W'=>e= .returned (.bool (isNum y))∧Below W.heap.size W W')):=Lib.hid fun W hW=>⟨number_c v1 x W (h1.below hW),number_c v2 y W (h2.below hW)⟩
 have HTW:=Lib.hid (fun c=>tw_sgn hk h13 h14 c)
 have HTN:=Lib.hid (tok_ne hk h13 h14)
 have HH:=Lib.hid (fun c w=>holds_c k c w hk)
 have HE:=Lib.hid (And.intro hE hO)
 have HLN:=Lib.hid (And.intro hn1 hn2)
 clear hE hO
 obtain⟨A2,c2,A5,c5,rfl,_,_,_,g1⟩:=h1.open
 obtain⟨P2,p2,P5,p5,rfl,_,_,_,g2⟩:=h2.open
 have H1:=Lib.hid (two_new w (six5 x A2 c2 A5 x.f5.length c5) (six5 y P2 p2 P5 y.f5.length p5))
 obtain⟨W1,hW1⟩: ∃W,W=(w.alloc (.cells (six5 x A2 c2 A5 x.f5.length c5) 26)).alloc (.cells (six5 y P2 p2 P5 y.f5.length p5) 26):=⟨_,rfl⟩
 rw[←hW1] at H1
 have q1:(k==13)=false:=by simp[h13]
 have q2:(k==14)=false:=by simp[h14]
 have HK:=Lib.hid (fun i hi=>kid_at g1 i hi rfl)
 have HL:=Lib.hid (fun i hi=>kid_at g2 i hi rfl)
 have hnx:isNum x=false:=by
  unfold isNum
  rcases hkk with⟨hkk,_⟩|⟨hkk,_⟩
  all_goals(rw[hkk];rfl)
 rw[hnx] at HN
 clear hnx h1 h2 g1 g2 HV hk h13 h14
 obtain⟨a0,a1,a2,a3,a4,a5⟩:=x
 obtain⟨b0,b1,b2,b3,b4,b5⟩:=y
 dsimp only at*
 rcases hkk with⟨rfl,rfl⟩|⟨rfl,rfl⟩
 all_goals
  go_enter Tryz.func13,Tryz.ntmps13
  go_wp2_with fail
  rw[←hW1]
  clear hW1
  with_reducible refine(HN.out _ H1.out.1).1.mono ?_
  rintro e w1 ⟨rfl,hb1⟩
  have HX:=Lib.hid (And.intro (blk_below H1.out.2.1 hb1) (blk_below H1.out.2.2 hb1))
  have HB:=Lib.hid (H1.out.1.trans (hb1.mono H1.out.1.size))
  clear hb1
  obtain⟨z0,z1,z2,z3,z4,z5⟩:=cells6 HX.out.1
  obtain⟨y0,y1,y2,y3,y4,y5⟩:=cells6 HX.out.2
  go_wp2_with fail
  go_loopw [8] (fun i wr=> ∃j:Nat,j≤a5.length∧j≤b5.length∧i= .int .i64 (j:Int)∧Hid (∀q,q<j→E q=true)∧Hid (wr.heap[w.heap.size]?=some (.cells #[_, .bool a1, .slice A2 a2.length c2, .int .u64 a3, .string a4, .slice A5 a5.length c5] 26 (0,0))∧wr.heap[w.heap.size+1]?=some (.cells #[_, .bool b1, .slice P2 b2.length p2, .int .u64 b3, .string b4, .slice P5 b5.length p5] 26 (0,0)))∧Hid (Below w.heap.size w wr)) (fun i _=>a5.length-(intOf i).toNat)
  case atStart=>exact⟨0,Nat.zero_le _,Nat.zero_le _,rfl,Lib.hid fun q h=>absurd h (Nat.not_lt_zero _),HX,HB⟩
  case round=>
   clear HX HB z0 z1 z2 z3 z4 z5 y0 y1 y2 y3 y4 y5
   obtain⟨j,hj1,hj2,rfl,HQ,HX,HB⟩:=hrel
   by_cases hlt:j<a5.length∧j<b5.length
   ·obtain⟨l1,l2⟩:=hlt
    obtain⟨bp,op,Cp,ep,Dp,fp,rfl,hbp,k0,k1,k2,k3,k4,k5,hVp⟩:=HK.out j l1
    obtain⟨bq,oq,Cq,eq,Dq,fq,rfl,hbq,m0,m1,m2,m3,m4,m5,hVq⟩:=HL.out j l2
    have HS:Hid (∀W,Below w.heap.size w W→((W.cell? ⟨bp,op+j*6,none⟩=some (.int .i64 a5[j].f0)∧W.cell? ⟨bp,op+j*6+1,none⟩=some (.bool a5[j].f1)∧W.cell? ⟨bp,op+j*6+2,none⟩=some (.slice Cp a5[j].f2.length ep)∧W.cell? ⟨bp,op+j*6+3,none⟩=some (.int .u64 a5[j].f3)∧W.cell? ⟨bp,op+j*6+4,none⟩=some (.string a5[j].f4)∧W.cell? ⟨bp,op+j*6+5,none⟩=some (.slice Dp a5[j].f5.length fp))∧(W.cell? ⟨bq,oq+j*6,none⟩=some (.int .i64 b5[j].f0)∧W.cell? ⟨bq,oq+j*6+1,none⟩=some (.bool b5[j].f1)∧W.cell? ⟨bq,oq+j*6+2,none⟩=some (.slice Cq b5[j].f2.length eq)∧W.cell? ⟨bq,oq+j*6+3,none⟩=some (.int .u64 b5[j].f3)∧W.cell? ⟨bq,oq+j*6+4,none⟩=some (.string b5[j].f4)∧W.cell? ⟨bq,oq+j*6+5,none⟩=some (.slice Dq b5[j].f5.length fq)))):=Lib.hid fun W hW=>⟨⟨(hW.cell (p:=⟨bp,_,none⟩) hbp).trans k0,(hW.cell (p:=⟨bp,_,none⟩) hbp).trans k1,(hW.cell (p:=⟨bp,_,none⟩) hbp).trans k2,(hW.cell (p:=⟨bp,_,none⟩) hbp).trans k3,(hW.cell (p:=⟨bp,_,none⟩) hbp).trans k4,(hW.cell (p:=⟨bp,_,none⟩) hbp).trans k5⟩,⟨(hW.cell (p:=⟨bq,_,none⟩) hbq).trans m0,(hW.cell (p:=⟨bq,_,none⟩) hbq).trans m1,(hW.cell (p:=⟨bq,_,none⟩) hbq).trans m2,(hW.cell (p:=⟨bq,_,none⟩) hbq).trans m3,(hW.cell (p:=⟨bq,_,none⟩) hbq).trans m4,(hW.cell (p:=⟨bq,_,none⟩) hbq).trans m5⟩⟩
    obtain⟨⟨x0,x1,x2,x3,x4,x5⟩,⟨y0,y1,y2,y3,y4,y5⟩⟩:=HS.out _ HB.out
    have z5:=(cells6 HX.out.1).2.2.2.2.2
    have y9:=(cells6 HX.out.2).2.2.2.2.2
    obtain⟨r,hr⟩: ∃r,E j=r:=⟨_,rfl⟩
    obtain⟨o,ho⟩: ∃o,O j=o:=⟨_,rfl⟩
    have HEj:Hid (∀W,Below w.heap.size w W→Calls Tryz.prog 30 #[.agg #[.int .i64 a5[j].f0, .bool a5[j].f1, .slice Cp a5[j].f2.length ep, .int .u64 a5[j].f3, .string a5[j].f4, .slice Dp a5[j].f5.length fp], .agg #[.int .i64 b5[j].f0, .bool b5[j].f1, .slice Cq b5[j].f2.length eq, .int .u64 b5[j].f3, .string b5[j].f4, .slice Dq b5[j].f5.length fq]] W fun e W'=>e= .returned (.bool r)∧Below W.heap.size W W'):=Lib.hid fun W hW=>by
     have:=HE.out.1 W hW j l1 l2 _ _ (hVp.below hW) (hVq.below hW)
     rw[hr] at this
     exact this
    have HOj:Hid (∀W,Below w.heap.size w W→Calls Tryz.prog 13 #[.int .i64 k, .agg #[.int .i64 a5[j].f0, .bool a5[j].f1, .slice Cp a5[j].f2.length ep, .int .u64 a5[j].f3, .string a5[j].f4, .slice Dp a5[j].f5.length fp], .agg #[.int .i64 b5[j].f0, .bool b5[j].f1, .slice Cq b5[j].f2.length eq, .int .u64 b5[j].f3, .string b5[j].f4, .slice Dq b5[j].f5.length fq]] W fun e W'=>e= .returned (.tuple #[.bool (o.getD false), .bool o.isSome])∧Below W.heap.size W W'):=Lib.hid fun W hW=>by
     have:=HE.out.2 W hW j l1 l2 _ _ (hVp.below hW) (hVq.below hW)
     rw[ho] at this
     exact this
    have HRO:=Lib.hid (And.intro hr ho)
    clear hVp hVq k0 k1 k2 k3 k4 k5 m0 m1 m2 m3 m4 m5 hr ho
    go_upto_region 18 with fail
    go_region_held3 (fun W=>((W.cell? ⟨bp,op+j*6,none⟩=some (.int .i64 a5[j].f0)∧W.cell? ⟨bp,op+j*6+1,none⟩=some (.bool a5[j].f1)∧W.cell? ⟨bp,op+j*6+2,none⟩=some (.slice Cp a5[j].f2.length ep)∧W.cell? ⟨bp,op+j*6+3,none⟩=some (.int .u64 a5[j].f3)∧W.cell? ⟨bp,op+j*6+4,none⟩=some (.string a5[j].f4)∧W.cell? ⟨bp,op+j*6+5,none⟩=some (.slice Dp a5[j].f5.length fp))∧(W.cell? ⟨bq,oq+j*6,none⟩=some (.int .i64 b5[j].f0)∧W.cell? ⟨bq,oq+j*6+1,none⟩=some (.bool b5[j].f1)∧W.cell? ⟨bq,oq+j*6+2,none⟩=some (.slice Cq b5[j].f2.length eq)∧W.cell? ⟨bq,oq+j*6+3,none⟩=some (.int .u64 b5[j].f3)∧W.cell? ⟨bq,oq+j*6+4,none⟩=some (.string b5[j].f4)∧W.cell? ⟨bq,oq+j*6+5,none⟩=some (.slice Dq b5[j].f5.length fq)))∧W.cell? ⟨w.heap.size,5,none⟩=some (.slice (some ⟨bp,op,none⟩) a5.length c5)∧W.cell? ⟨w.heap.size+1,5,none⟩=some (.slice (some ⟨bq,oq,none⟩) b5.length p5)) (first|(with_reducible exact⟨⟨⟨r0,r1,r2,r3,r4,r5⟩,⟨s0,s1,s2,s3,s4,s5⟩⟩,z6,y8⟩)|(with_reducible exact⟨⟨⟨x0,x1,x2,x3,x4,x5⟩,⟨y0,y1,y2,y3,y4,y5⟩⟩,z5,y9⟩)|exact⟨⟨⟨r0,r1,r2,r3,r4,r5⟩,⟨s0,s1,s2,s3,s4,s5⟩⟩,z6,y8⟩|exact⟨⟨⟨x0,x1,x2,x3,x4,x5⟩,⟨y0,y1,y2,y3,y4,y5⟩⟩,z5,y9⟩) (first
     |(go_at_call 30;(with_reducible refine(HEj.out _ (by first|(with_reducible exact HB.out.drew)|exact HB.out.drew)).mono ?_);rintro e w1 ⟨rfl,hb1⟩;have HB1:Hid (Below w.heap.size w w1):=Lib.hid (HB.out.drew.trans (hb1.mono HB.out.drew.size));have HX1:=Lib.hid (And.intro (blk_below (w:=wr.drew) HX.out.1 hb1) (blk_below (w:=wr.drew) HX.out.2 hb1));obtain⟨⟨r0,r1,r2,r3,r4,r5⟩,⟨s0,s1,s2,s3,s4,s5⟩⟩:=HS.out _ HB1.out;have z6:=(cells6 HX1.out.1).2.2.2.2.2;have y8:=(cells6 HX1.out.2).2.2.2.2.2;clear hb1))
    clear x0 x1 x2 x3 x4 x5 y0 y1 y2 y3 y4 y5 z5 y9 r0 r1 r2 r3 r4 r5 s0 s1 s2 s3 s4 s5 z6 y8
    cases r
    ·clear HB HX
     obtain⟨wr,rfl⟩: ∃W,W=w1:=⟨_,rfl⟩
     have HB:=HB1
     have HX:=HX1
     clear HB1 HX1
     obtain⟨⟨x0,x1,x2,x3,x4,x5⟩,⟨y0,y1,y2,y3,y4,y5⟩⟩:=HS.out _ HB.out
     have z5:=(cells6 HX.out.1).2.2.2.2.2
     have y9:=(cells6 HX.out.2).2.2.2.2.2
     go_upto_region 19 with fail
     go_region_held3 (fun W=>((W.cell? ⟨bp,op+j*6,none⟩=some (.int .i64 a5[j].f0)∧W.cell? ⟨bp,op+j*6+1,none⟩=some (.bool a5[j].f1)∧W.cell? ⟨bp,op+j*6+2,none⟩=some (.slice Cp a5[j].f2.length ep)∧W.cell? ⟨bp,op+j*6+3,none⟩=some (.int .u64 a5[j].f3)∧W.cell? ⟨bp,op+j*6+4,none⟩=some (.string a5[j].f4)∧W.cell? ⟨bp,op+j*6+5,none⟩=some (.slice Dp a5[j].f5.length fp))∧(W.cell? ⟨bq,oq+j*6,none⟩=some (.int .i64 b5[j].f0)∧W.cell? ⟨bq,oq+j*6+1,none⟩=some (.bool b5[j].f1)∧W.cell? ⟨bq,oq+j*6+2,none⟩=some (.slice Cq b5[j].f2.length eq)∧W.cell? ⟨bq,oq+j*6+3,none⟩=some (.int .u64 b5[j].f3)∧W.cell? ⟨bq,oq+j*6+4,none⟩=some (.string b5[j].f4)∧W.cell? ⟨bq,oq+j*6+5,none⟩=some (.slice Dq b5[j].f5.length fq)))∧W.cell? ⟨w.heap.size,5,none⟩=some (.slice (some ⟨bp,op,none⟩) a5.length c5)∧W.cell? ⟨w.heap.size+1,5,none⟩=some (.slice (some ⟨bq,oq,none⟩) b5.length p5)) (first|(with_reducible exact⟨⟨⟨r0,r1,r2,r3,r4,r5⟩,⟨s0,s1,s2,s3,s4,s5⟩⟩,z6,y8⟩)|(with_reducible exact⟨⟨⟨x0,x1,x2,x3,x4,x5⟩,⟨y0,y1,y2,y3,y4,y5⟩⟩,z5,y9⟩)|exact⟨⟨⟨r0,r1,r2,r3,r4,r5⟩,⟨s0,s1,s2,s3,s4,s5⟩⟩,z6,y8⟩|exact⟨⟨⟨x0,x1,x2,x3,x4,x5⟩,⟨y0,y1,y2,y3,y4,y5⟩⟩,z5,y9⟩) (first
      |(go_at_call 13;(with_reducible refine(HOj.out _ (by first|(with_reducible exact HB.out.drew)|exact HB.out.drew)).mono ?_);rintro e w1 ⟨rfl,hb1⟩;have HB1:Hid (Below w.heap.size w w1):=Lib.hid (HB.out.drew.trans (hb1.mono HB.out.drew.size));have HX1:=Lib.hid (And.intro (blk_below (w:=wr.drew) HX.out.1 hb1) (blk_below (w:=wr.drew) HX.out.2 hb1));obtain⟨⟨r0,r1,r2,r3,r4,r5⟩,⟨s0,s1,s2,s3,s4,s5⟩⟩:=HS.out _ HB1.out;have z6:=(cells6 HX1.out.1).2.2.2.2.2;have y8:=(cells6 HX1.out.2).2.2.2.2.2;clear hb1))
     go_wp2_with fail
     go_ret2
     exact⟨by rw[sliceO_at (by rintro⟨_,h|h⟩;exact HTN.out.1 h;exact HTN.out.2 h) l1 l2 HRO.out.1 HQ.out,if_neg HTN.out.1,if_neg HTN.out.2,HRO.out.2];rfl,HB1.out⟩
    ·go_wp2
     go_roundw
     case rel=>
      exact⟨j+1,by omega,by omega,by go_num,Lib.hid (fun q hq=>by
       by_cases h9:q<j
       ·exact HQ.out q h9
       ·obtain rfl:q=j:=by omega
        exact HRO.out.1),HX1,HB1⟩
     case measure=>simp[intOf];omega
   ·have HEND:=Lib.hid (sliceO_end (O:=O) HTN.out hj1 hj2 hlt HQ.out)
    have hq3:j<a5.length→ ¬j<b5.length:=fun h1 h2=>hlt ⟨h1,h2⟩
    have hx:=HX.out.1
    have hy:=HX.out.2
    obtain⟨z0,z1,z2,z3,z4,z5⟩:=cells6 hx
    obtain⟨y0,y1,y2,y3,y4,y5⟩:=cells6 hy
    clear hx hy hlt
    by_cases h1:j<a5.length
    all_goals
     first
      |(have h2:=hq3 h1;clear hq3)
      |clear hq3
     go_wp2_with (first|(go_at_call 34;(with_reducible refine(cmpLengths_c _ _ _).mono ?_);rintro e w3 ⟨rfl,hw3⟩;obtain rfl:=hw3)|(go_at_call 32;(with_reducible refine(HH.out _ _).mono ?_);rintro e w4 ⟨rfl,hw4⟩;have HW:=Lib.hid hw4;clear hw4))
     go_ret2
     exact⟨by rw[HEND.out,←HTW.out];rfl,by rw[HW.out];exact HB.out⟩
def at2 {α:Type} (d:α) (f:VT→VT→α) (xs ys:List VT) (i:Nat):α:=match xs[i]?,ys[i]? with
 |some a,some b=>f a b
 |_,_=>d
theorem at2_eq {α:Type} {d:α} {f:VT→VT→α} {xs ys:List VT} {i:Nat} (h1:i<xs.length) (h2:i<ys.length):at2 d f xs ys i=f xs[i] ys[i]:=by
 unfold at2
 rw[List.getElem?_eq_getElem h1,List.getElem?_eq_getElem h2]
def inAll (x y:VT):Bool:=x.f5.all (fun k=>(findV EQ y.f5 1 k).isSome)
def cmpV:Nat→Int→VT→VT→Option Bool
 |0,_,_,_=>none
 |n+1,k,x,y=>
  if k=13∨k=14 then some (if k=13 then EQ x y else !EQ x y)
  else if(isNum x&&isNum y)=true then some (tw (tokOf k) (ncmp x y))
  else if¬x.f0=y.f0 then none
  else if x.f0=1 then some (tw (tokOf k) (sgn (x.f3-y.f3)))
  else if x.f0=4∨x.f0=5 then some (tw (tokOf k) (Lib.compareBytes x.f4.data.toList y.f4.data.toList))
  else if x.f0=6∨x.f0=7 then sliceO (tokOf k) x.f5.length y.f5.length (at2 true EQ x.f5 y.f5) (at2 none (cmpV n k) x.f5 y.f5)
  else if x.f0=9 then some (subO k (inAll x y) (inAll y x) x.f5.length y.f5.length)
  else none
theorem sc_bit {y:VT} (h:SC y) (hk:y.f0=1):y.f3=0∨y.f3=1:=by
 obtain⟨s,hc,hf⟩:=h
 have hkk:=hc.kind
 cases s<;>simp[Sca.kind,hk] at hkk
 rename_i b
 have:=(canon_bool hc).2
 cases b
 ·exact Or.inl this
 ·exact Or.inr this
theorem sc_text {y:VT} (h:SC y) (hk:y.f0=4∨y.f0=5):y.f4.size≤2147483647:=by
 obtain⟨s,hc,hf⟩:=h
 have hkk:=hc.kind
 have hs:=hc.sca
 unfold scaOf at hs
 rcases hk with hk|hk
 ·simp[hk] at hs;subst hs;exact hf
 ·simp[hk] at hs;subst hs;exact hf
theorem cmpStep_c (k:Int) (hk:KOk k) (n N:Nat) (hN:N≤8) (x y:VT) (v1 v2:Value) (w:World) (h1:VR w v1 x) (h2:VR w v2 y) (hx:CT N x) (hy:CT N y)
    (hK: ∀a∈x.f5,∀b∈y.f5,∀W,Below w.heap.size w W→ ∀u v',VR W u a→VR W v' b→Calls Tryz.prog 13 #[.int .i64 k,u,v'] W fun e W'=>SCR (cmpV n k a b) e∧Below W.heap.size W W'):
    Calls Tryz.prog 13 #[.int .i64 k,v1,v2] w fun e w'=>SCR (cmpV (n+1) k x y) e∧Below w.heap.size w w':=by
  have ox:=hx.ok9 hN
  have oy:=hy.ok9 hN
  have hE: ∀W,Below w.heap.size w W→Calls Tryz.prog 30 #[v1,v2] W fun e W'=>e= .returned (.bool (EQ x y))∧Below W.heap.size W W':=fun W hW=>treeEq_c 9 x y v1 v2 W (h1.below hW) (h2.below hW) ox oy
  by_cases hk1:k=13∨k=14
  · have:=scEq_c k hk1 x y v1 v2 (EQ x y) w h1 h2 hE
    unfold cmpV
    rw[if_pos hk1]
    exact this
  have k13: ¬k=13:=fun h=>hk1 (Or.inl h)
  have k14: ¬k=14:=fun h=>hk1 (Or.inr h)
  by_cases hn:(isNum x&&isNum y)=true
  · have hnn:=hn
    rw[Bool.and_eq_true] at hnn
    have:=scNum_c k hk k13 k14 x y v1 v2 w h1 h2 ox.leaf oy.leaf hnn.1 hnn.2
    unfold cmpV
    rw[if_neg hk1,if_pos hn]
    exact this
  have hnf:(isNum x&&isNum y)=false:=by simpa using hn
  by_cases hne:x.f0=y.f0
  rotate_left
  · have:=scKind_c k hk k13 k14 x y v1 v2 w h1 h2 hnf hne
    unfold cmpV
    rw[if_neg hk1,if_neg hn,if_pos hne]
    exact this
  have hc:=ox.leaf.kind
  have hcase:x.f0=0∨x.f0=1∨(x.f0=2∨x.f0=3)∨(x.f0=4∨x.f0=5)∨(x.f0=6∨x.f0=7)∨x.f0=8∨x.f0=9:=by omega
  rcases hcase with q|q|q|q|q|q|q
  · have:=scNo_c k hk k13 k14 x y v1 v2 w h1 h2 (Or.inl ⟨q,hne▸q⟩)
    unfold cmpV
    rw[if_neg hk1,if_neg hn,if_neg (not_not_intro hne),if_neg (by omega),if_neg (by omega),if_neg (by omega),if_neg (by omega)]
    exact this
  · have:=scBool_c k hk k13 k14 x y v1 v2 w h1 h2 ⟨q,hne▸q⟩ (sc_bit (hx.isSC (by omega)) q) (sc_bit (hy.isSC (by omega)) (hne▸q))
    unfold cmpV
    rw[if_neg hk1,if_neg hn,if_neg (not_not_intro hne),if_pos q]
    exact this
  · exfalso
    apply hn
    unfold isNum
    rw[←hne]
    rcases q with q|q<;>simp[q]
  · have:=scText_c k hk k13 k14 x y v1 v2 w h1 h2 (by rcases q with q|q;exact Or.inl ⟨q,hne▸q⟩;exact Or.inr ⟨q,hne▸q⟩) (sc_text (hx.isSC (by omega)) q) (sc_text (hy.isSC (by omega)) (hne▸q))
    unfold cmpV
    rw[if_neg hk1,if_neg hn,if_neg (not_not_intro hne),if_neg (by omega),if_pos q]
    exact this
  · have:=scSeq_c k hk k13 k14 x y v1 v2 w h1 h2 (by rcases q with q|q;exact Or.inl ⟨q,hne▸q⟩;exact Or.inr ⟨q,hne▸q⟩) ox.leaf.many oy.leaf.many (at2 true EQ x.f5 y.f5) (at2 none (cmpV n k) x.f5 y.f5)
      (fun W hW i hi hi2 u v' hu hv=>by rw[at2_eq hi hi2];exact treeEq_c 9 _ _ u v' W hu hv (ox.up.2 _ (List.getElem_mem hi)) (oy.up.2 _ (List.getElem_mem hi2)))
      (fun W hW i hi hi2 u v' hu hv=>by rw[at2_eq hi hi2];exact hK _ (List.getElem_mem hi) _ (List.getElem_mem hi2) W hW u v' hu hv)
    unfold cmpV
    rw[if_neg hk1,if_neg hn,if_neg (not_not_intro hne),if_neg (by omega),if_neg (by omega),if_pos q]
    exact this
  · have:=scNo_c k hk k13 k14 x y v1 v2 w h1 h2 (Or.inr ⟨q,hne▸q⟩)
    unfold cmpV
    rw[if_neg hk1,if_neg hn,if_neg (not_not_intro hne),if_neg (by omega),if_neg (by omega),if_neg (by omega),if_neg (by omega)]
    exact this
  · have hW: ∀(a b:VT) (u v:Value),Ok 9 a→Ok 9 b→VR w u a→VR w v b→ ∀W,Below w.heap.size w W→Calls Tryz.prog 66 #[u,v] W fun e W'=>e= .returned (.bool (inAll a b))∧Below W.heap.size W W':=fun a b u v oa ob hu hv W hW=>
      treeWithin_c EQ a b u v W (hu.below hW) (hv.below hW) oa.leaf.many ob.leaf.many fun W' hW' j hj i hi u' v' h3 h4=>treeEq_c 9 _ _ u' v' W' h3 h4 (ob.up.2 _ (List.getElem_mem hj)) (oa.up.2 _ (List.getElem_mem hi))
    have:=scSet_c k hk k13 k14 x y v1 v2 w h1 h2 ⟨q,hne▸q⟩ (inAll x y) (inAll y x) (hW x y v1 v2 ox oy h1 h2) (hW y x v2 v1 oy ox h2 h1)
    unfold cmpV
    rw[if_neg hk1,if_neg hn,if_neg (not_not_intro hne),if_neg (by omega),if_neg (by omega),if_neg (by omega),if_pos q]
    exact this
theorem treeCmp_c (k:Int) (hk:KOk k): ∀(n:Nat),n≤8→ ∀(x y:VT) (v1 v2:Value) (w:World),VR w v1 x→VR w v2 y→CT n x→CT n y→
    Calls Tryz.prog 13 #[.int .i64 k,v1,v2] w fun e w'=>SCR (cmpV (n+1) k x y) e∧Below w.heap.size w w':=by
  intro n
  induction n with
  |zero=>exact fun hn x y v1 v2 w h1 h2 hx hy=>cmpStep_c k hk 0 0 hn x y v1 v2 w h1 h2 hx hy fun a ha=>by rw[SC.kids hx] at ha;cases ha
  |succ n ih=>
    intro hn x y v1 v2 w h1 h2 hx hy
    refine cmpStep_c k hk (n+1) (n+1) hn x y v1 v2 w h1 h2 hx hy fun a ha b hb W hW u v' hu hv=>?_
    · have ka:CT n a:=by
        rcases hx with hs|⟨_,_,hk,_⟩
        ·rw[SC.kids hs] at ha;cases ha
        ·exact hk a ha
      have kb:CT n b:=by
        rcases hy with hs|⟨_,_,hk,_⟩
        ·rw[SC.kids hs] at hb;cases hb
        ·exact hk b hb
      exact ih (by omega) a b u v' W hu hv ka kb
def cmpS (op:Int):Sca→Sca→Option Bool
 | .none, .none=>onlyEq op true
 | .bool a, .bool b=>some (tw op ((if a then 1 else 0)-(if b then 1 else 0)))
 | .int x, .int y=>some (tw op (sgn (x-y)))
 | .float a, .float b=>some (tw op (fcmpF a b))
 | .int x, .float b=>some (tw op (icmpF x b))
 | .float a, .int y=>some (tw op (-icmpF y a))
 | .str a, .str b=>some (tw op (Lib.compareBytes a.data.toList b.data.toList))
 | .bytes a, .bytes b=>some (tw op (Lib.compareBytes a.data.toList b.data.toList))
 |_,_=>onlyEq op false
theorem cdSca_c (op:Int) (ho:OpOk op) (B1 B2:Nat) (v1 v2:Value) (s t:Sca) (d:Int) (w:World) (hd: ¬d<1) (hd2:d≤1000) (h1:ScaV B1 w v1 s) (h2:ScaV B2 w v2 t) (f1:s.fit) (f2:t.fit) (hT:Thr w):
 Calls Tryz.prog 29 #[.int .i8 op,v1,v2, .int .i64 d] w fun e w'=>CmpR (cmpS op s t) e∧Below w.heap.size w w':=by
 have hs:=sameType_c B1 B2 v1 v2 s t w h1 h2
 by_cases hk:s.kind=t.kind
 ·cases s<;>cases t<;>simp[Sca.kind] at hk
  ·cases h1;cases h2;exact cdNoneG_c op d w ho hd hd2
  ·cases h1;cases h2;exact cdBool_c op _ _ d w ho hd hd2
  ·obtain⟨u1,rfl,k1⟩:=h1
   obtain⟨u2,rfl,k2⟩:=h2
   exact cdInt2_c B1 B2 u1 u2 _ _ op d w ho hd hd2 k1 k2 f1 f2
  ·cases h1;cases h2;exact cdFloat_c op _ _ d w ho hd hd2
  ·cases h1;cases h2;exact cdString_c op _ _ d w ho hd hd2
  ·cases h1;cases h2;exact cdBytes_c op _ _ d w ho hd hd2
 ·rw[show(s.kind==t.kind)=false by simp[hk]] at hs
  by_cases k2:s.kind=2
  ·cases s<;>simp[Sca.kind] at k2
   obtain⟨u1,rfl,g1⟩:=h1
   by_cases k3:t.kind=3
   ·cases t<;>simp[Sca.kind] at k3
    cases h2
    exact cdIntFloat_c B1 u1 _ _ op d w ho hd hd2 f2 g1 f1 hT
   ·obtain⟨T,x,rfl,hn⟩:=notNum h2 (fun e=>hk e.symm) k3
    obtain⟨y,p,rfl⟩:=g1.shape
    rw[show cmpS op (.int _) t=onlyEq op false by cases t<;>first|rfl|exact absurd rfl hk|exact absurd rfl k3]
    exact cdIntOG_c T y p x op d w ho hd hd2 hn (Lib.hid hs)
  ·by_cases k3:s.kind=3
   ·cases s<;>simp[Sca.kind] at k3
    cases h1
    by_cases k4:t.kind=2
    ·cases t<;>simp[Sca.kind] at k4
     obtain⟨u2,rfl,g2⟩:=h2
     exact cdFloatInt_c B2 u2 _ _ op d w ho hd hd2 f1 g2 f2 hT
    ·obtain⟨T,x,rfl,hn⟩:=notNum h2 k4 (fun e=>hk e.symm)
     rw[show cmpS op (.float _) t=onlyEq op false by cases t<;>first|rfl|exact absurd rfl hk|exact absurd rfl k4]
     exact cdFloatOG_c T _ x op d w ho hd hd2 hn (Lib.hid hs)
   ·obtain⟨T,x,rfl,hn⟩:=notNum h1 k2 k3
    obtain⟨T2,x2,K2,rfl,_⟩:=typeAt h2
    rw[show cmpS op s t=onlyEq op false by cases s<;>cases t<;>first|rfl|exact absurd rfl hk|exact absurd rfl k2|exact absurd rfl k3]
    exact cdOtherG_c T T2 x x2 op d w ho hd hd2 hn (Lib.hid hs)
theorem cmpS37 (s t:Sca):cmpS 37 s t=some (eqS s t):=by
 cases s<;>cases t<;>first
  |rfl
  |(rename_i a b;cases a<;>cases b<;>rfl)
  |(rename_i a b;show some (Lib.compareBytes a.data.toList b.data.toList==0)=some (a==b);rw[←eqS_bytes];rfl)
theorem cmpS38 (s t:Sca):cmpS 38 s t=some (!eqS s t):=by
 cases s<;>cases t<;>first
  |rfl
  |(rename_i a b;cases a<;>cases b<;>rfl)
  |(rename_i a b;show some (!(Lib.compareBytes a.data.toList b.data.toList==0))=some (!(a==b));rw[←eqS_bytes];rfl)
theorem onlyEq_no {op:Int} (h: ¬op=37∧ ¬op=38) (b:Bool):onlyEq op b=none:=by
 unfold onlyEq
 rw[if_neg h.1,if_neg h.2]
theorem ncmp_ii {a b:Int} {x y:VT} (hx:Canon (.int a) x) (hy:Canon (.int b) y):ncmp x y=sgn (a-b):=by
 obtain⟨k1,g1,v1⟩:=canon_int hx
 obtain⟨k2,g2,v2⟩:=canon_int hy
 unfold ncmp
 rw[if_pos k1,if_pos k2,v1,v2]
theorem ncmp_if {a:Int} {b:Nat} {x y:VT} (hx:Canon (.int a) x) (hy:Canon (.float b) y):ncmp x y=icmpF a b:=by
 obtain⟨k1,g1,v1⟩:=canon_int hx
 obtain⟨k2,v2⟩:=canon_float hy
 unfold ncmp
 rw[if_pos k1,if_neg (by omega),v1,v2];rfl
theorem ncmp_fi {a:Nat} {b:Int} {x y:VT} (hx:Canon (.float a) x) (hy:Canon (.int b) y):ncmp x y= -icmpF b a:=by
 obtain⟨k1,v1⟩:=canon_float hx
 obtain⟨k2,g2,v2⟩:=canon_int hy
 unfold ncmp
 rw[if_neg (by omega),if_pos k2,v1,v2];rfl
theorem ncmp_ff {a b:Nat} {x y:VT} (hx:Canon (.float a) x) (hy:Canon (.float b) y):ncmp x y=fcmpF a b:=by
 obtain⟨k1,v1⟩:=canon_float hx
 obtain⟨k2,v2⟩:=canon_float hy
 unfold ncmp
 rw[if_neg (by omega),if_neg (by omega),v1,v2];rfl
theorem cmpV_num {n:Nat} {k:Int} {x y:VT} (h1: ¬(k=13∨k=14)) (hn:(isNum x&&isNum y)=true):cmpV (n+1) k x y=some (tw (tokOf k) (ncmp x y)):=by
 unfold cmpV;rw[if_neg h1,if_pos hn]
theorem cmpV_kind {n:Nat} {k:Int} {x y:VT} (h1: ¬(k=13∨k=14)) (hn:(isNum x&&isNum y)=false) (h: ¬x.f0=y.f0):cmpV (n+1) k x y=none:=by
 unfold cmpV;rw[if_neg h1,if_neg (by simp[hn]),if_pos h]
theorem cmpV_none {n:Nat} {k:Int} {x y:VT} (h1: ¬(k=13∨k=14)) (hx:x.f0=0∨x.f0=8) (h:x.f0=y.f0):cmpV (n+1) k x y=none:=by
 have hn:isNum x=false:=by unfold isNum;rcases hx with e|e<;>rw[e]<;>rfl
 unfold cmpV;rw[if_neg h1,if_neg (by simp[hn]),if_neg (not_not_intro h),if_neg (by omega),if_neg (by omega),if_neg (by omega),if_neg (by omega)]
theorem cmpV_bool {n:Nat} {k:Int} {x y:VT} (h1: ¬(k=13∨k=14)) (hx:x.f0=1) (h:x.f0=y.f0):cmpV (n+1) k x y=some (tw (tokOf k) (sgn (x.f3-y.f3))):=by
 have hn:isNum x=false:=by unfold isNum;rw[hx];rfl
 unfold cmpV;rw[if_neg h1,if_neg (by simp[hn]),if_neg (not_not_intro h),if_pos hx]
theorem cmpV_text {n:Nat} {k:Int} {x y:VT} (h1: ¬(k=13∨k=14)) (hx:x.f0=4∨x.f0=5) (h:x.f0=y.f0):cmpV (n+1) k x y=some (tw (tokOf k) (Lib.compareBytes x.f4.data.toList y.f4.data.toList)):=by
 have hn:isNum x=false:=by unfold isNum;rcases hx with e|e<;>rw[e]<;>rfl
 unfold cmpV;rw[if_neg h1,if_neg (by simp[hn]),if_neg (not_not_intro h),if_neg (by omega),if_pos hx]
theorem cmpV_seq {n:Nat} {k:Int} {x y:VT} (h1: ¬(k=13∨k=14)) (hx:x.f0=6∨x.f0=7) (h:x.f0=y.f0):cmpV (n+1) k x y=sliceO (tokOf k) x.f5.length y.f5.length (at2 true EQ x.f5 y.f5) (at2 none (cmpV n k) x.f5 y.f5):=by
 have hn:isNum x=false:=by unfold isNum;rcases hx with e|e<;>rw[e]<;>rfl
 unfold cmpV;rw[if_neg h1,if_neg (by simp[hn]),if_neg (not_not_intro h),if_neg (by omega),if_neg (by omega),if_pos hx]
theorem cmpV_set {n:Nat} {k:Int} {x y:VT} (h1: ¬(k=13∨k=14)) (hx:x.f0=9) (h:x.f0=y.f0):cmpV (n+1) k x y=some (subO k (inAll x y) (inAll y x) x.f5.length y.f5.length):=by
 have hn:isNum x=false:=by unfold isNum;rw[hx];rfl
 unfold cmpV;rw[if_neg h1,if_neg (by simp[hn]),if_neg (not_not_intro h),if_neg (by omega),if_neg (by omega),if_neg (by omega),if_pos hx]
theorem cmpV_eq {n:Nat} {k:Int} {x y:VT} (h1:k=13∨k=14):cmpV (n+1) k x y=onlyEq (tokOf k) (EQ x y):=by
 unfold cmpV
 rw[if_pos h1]
 rcases h1 with rfl|rfl<;>rfl
theorem cmpS_V {k:Int} (hk:KOk k) (n:Nat) {s t:Sca} {x y:VT} (hx:Canon s x) (hy:Canon t y):cmpS (tokOf k) s t=cmpV (n+1) k x y:=by
 by_cases h1:k=13∨k=14
 ·rw[cmpV_eq h1,show EQ x y=eqS s t from eqV_sca 8 hx hy]
  rcases h1 with rfl|rfl
  ·exact cmpS37 s t
  ·exact cmpS38 s t
 have hno:=tok_ne hk (fun e=>h1 (Or.inl e)) (fun e=>h1 (Or.inr e))
 have kx:=hx.kind
 have ky:=hy.kind
 have nx:=canon_num hx
 have ny:=canon_num hy
 cases s<;>cases t<;>first
  |(rw[cmpV_num h1 (by rw[nx,ny];rfl)];(first|rw[ncmp_ii hx hy]|rw[ncmp_if hx hy]|rw[ncmp_fi hx hy]|rw[ncmp_ff hx hy]);rfl)
  |(rw[cmpV_none h1 (Or.inl kx) (kx.trans ky.symm)];exact onlyEq_no hno _)
  |(rw[cmpV_bool h1 kx (kx.trans ky.symm),(canon_bool hx).2,(canon_bool hy).2];rename_i a b;cases a<;>cases b<;>rfl)
  |(rw[cmpV_text h1 (Or.inl kx) (kx.trans ky.symm),(canon_str hx).2,(canon_str hy).2];rfl)
  |(rw[cmpV_text h1 (Or.inr kx) (kx.trans ky.symm),(canon_bytes hx).2,(canon_bytes hy).2];rfl)
  |(rw[cmpV_kind h1 (by rw[nx,ny];rfl) (by rw[kx,ky];simp[Sca.kind])];exact onlyEq_no hno _)
theorem findV_none {E:VT→VT→Bool} {ys:List VT} {key:VT} {step:Nat} (hs:0<step) (h:findV E ys step key=none): ∀q (hq:q*step<ys.length),E ys[q*step] key=false:=by
 have:=findE_by E key ys step hs ys.length 0 0 (by omega) (by omega) (fun q h1 h2=>absurd h2 (Nat.not_lt_zero _))
 rcases this with⟨_,hn⟩|⟨k,hk,e,_,_⟩
 ·exact fun q hq=>hn q hq hq
 ·exfalso
  rw[show findBy E ys step key (ys.length+1) 0=none from h] at e
  have e2:(-1:Int)=((k*step:Nat):Int):=e
  have:=Int.natCast_nonneg (k*step)
  omega
theorem no_both {b:Bool} (h1:b=true) (h2:b=false):False:=by rw[h1] at h2;cases h2
def keyAt (ys:List VT) (step:Nat) (a:VT) (j:Nat):Bool:=match ys[j*step]? with
 |some y=>EQ a y
 |none=>false
theorem keyAt_eq {ys:List VT} {step:Nat} {a:VT} {j:Nat} (h:j*step<ys.length):keyAt ys step a j=EQ a ys[j*step]:=by
 unfold keyAt
 rw[List.getElem?_eq_getElem h]
def foundV (es:List HEnt) (ys:List VT) (step:Nat) (a:VT):Option Value:=(findV EQ ys step a).bind fun j=>(es[j/step]?).map (·.v)
theorem lookTree_c (step:Nat) (hs:0<step) (g:Nat) (T:TypeId) (it:Int) (es:List HEnt) (n n2 B1 B2:Nat) (u:Value) (a:VT) (ys:List VT) (w:World) (ht:HTab w g T (!es.isEmpty) es it) (hk:es.length≤8) (hl:ys.length=es.length*step)
 (pu:PV B1 n w u a) (ha:HC n a) (hn:n≤8)
 (hK: ∀i (h:i<es.length) (h1:i*step<ys.length),PV B2 n2 w es[i].k ys[i*step]∧es[i].h=hkey ys[i*step]) (hc: ∀i (h1:i*step<ys.length),HC n2 ys[i*step]) (hd:Dist step ys) (hT1:Thr w) (hL:Lim w):
 Calls Tryz.prog 303 #[.pointer (some ⟨g,0,none⟩),u] w fun e w'=>GetR (foundV es ys step a) e∧Below w.heap.size w w':=by
 have hin: ∀i,i<es.length→i*step<ys.length:=fun i hi=>by rw[hl];exact Nat.mul_lt_mul_of_pos_right hi hs
 have hH:=hashC_tree n B1 w u a pu ha hn
 obtain⟨TK,kx,rfl⟩:=pu.iface
 refine(lookup_c g T es it TK kx (hT a) (keyAt ys step a) w ht hk hH (fun j hj=>⟨(hK j hj (hin j hj)).1.iface,by rw[(hK j hj (hin j hj)).2];exact hkey_ne _⟩) (fun j hj _ W hW=>?_)).mono ?_
 ·rw[keyAt_eq (hin j hj)]
  exact equalHC_c n n2 B1 B2 _ _ _ _ W (pu.below hW) ((hK j hj (hin j hj)).1.below hW) ha (hc j (hin j hj)) hn (hT1.below hW) (hL.below hW)
 ·rintro e w' ⟨hlook,hb⟩
  refine⟨?_,hb⟩
  rcases hlook with⟨j,hj,_,hq,rfl⟩|⟨hno,rfl⟩
  ·rw[keyAt_eq (hin j hj)] at hq
   have hq2:EQ (ys[j*step]'(hin j hj)) a=true:=(eqV_symm 9 n2 n _ _ (hc j (hin j hj)) ha).trans hq
   cases hf:findV EQ ys step a with
   |none=>rw[findV_none hs hf j (hin j hj)] at hq2;cases hq2
   |some j'=>
    obtain⟨k,hk',rfl,he⟩:=findV_some hs hf
    have hkj:k=j:=by
     rcases Nat.lt_trichotomy k j with h|h|h
     ·exact(no_both (eqV_trans 9 n2 n n2 _ _ _ (hc k hk') ha (hc j (hin j hj)) he hq) (hd k j (hin j hj) h)).elim
     ·exact h
     ·exact(no_both (eqV_trans 9 n2 n n2 _ _ _ (hc j (hin j hj)) ha (hc k hk') hq2 ((eqV_symm 9 n n2 _ _ ha (hc k hk')).trans he)) (hd j k hk' h)).elim
    subst hkj
    unfold foundV
    rw[hf]
    simp only[Option.bind_some,Nat.mul_div_cancel _ hs,List.getElem?_eq_getElem hj,Option.map_some]
    rfl
  ·cases hf:findV EQ ys step a with
   |none=>unfold foundV;rw[hf];rfl
   |some j'=>
    obtain⟨k,hk',rfl,he⟩:=findV_some hs hf
    have hke:k<es.length:=by
     rw[hl] at hk'
     exact Nat.lt_of_mul_lt_mul_right hk'
    have hh:=hno k hke (by rw[(hK k hke hk').2,hkey_eq (hc k hk') ha he];rfl)
    rw[keyAt_eq hk'] at hh
    exact(no_both ((eqV_symm 9 n n2 _ _ ha (hc k hk')).trans he) hh).elim
theorem findBy_congr {E E':VT→VT→Bool} {ys:List VT} {step:Nat} {k:VT} (h: ∀v∈ys,E v k=E' v k): ∀(d i:Nat),findBy E ys step k d i=findBy E' ys step k d i
 |0,_=>rfl
 |d+1,i=>by
  unfold findBy
  by_cases hi:i<ys.length
  ·rw[dif_pos hi,dif_pos hi,h _ (List.getElem_mem hi),findBy_congr h d]
  ·rw[dif_neg hi,dif_neg hi]
theorem findV_congr {E E':VT→VT→Bool} {ys:List VT} {step:Nat} {k:VT} (h: ∀v∈ys,E v k=E' v k):findV E ys step k=findV E' ys step k:=findBy_congr h _ _
theorem dictBy_congr {E E':VT→VT→Bool} {ys:List VT}: ∀(xs:List VT),(∀u∈xs,∀v∈ys,E u v=E' u v∧E v u=E' v u)→dictBy E ys xs=dictBy E' ys xs
 |[],_=>rfl
 |[_],_=>rfl
 |k::v::r,h=>by
  unfold dictBy
  rw[findV_congr (E:=E) (E':=E') fun u hu=>(h k (by simp) u hu).2,dictBy_congr r fun u hu=>h u (by simp[hu])]
  congr 1
  cases findV E' ys 2 k with
  |none=>rfl
  |some i=>
   show(match ys[i+1]? with|none=>false|some u=>E v u)=(match ys[i+1]? with|none=>false|some u=>E' v u)
   cases hq:ys[i+1]? with
   |none=>rfl
   |some u=>exact(h v (by simp) u (List.mem_of_getElem? hq)).1
theorem all2_congr {E E':VT→VT→Bool}: ∀(xs ys:List VT),(∀u∈xs,∀v∈ys,E u v=E' u v)→all2 E xs ys=all2 E' xs ys
 |[],_,_=>by unfold all2;rfl
 |_::_,[],_=>by unfold all2;rfl
 |a::r,b::q,h=>by
  unfold all2
  rw[h a (by simp) b (by simp),all2_congr r q fun u hu v hv=>h u (by simp[hu]) v (by simp[hv])]
theorem all_congrT {P Q:VT→Bool} {xs:List VT} (h: ∀u∈xs,P u=Q u):xs.all P=xs.all Q:=by
 induction xs with
 |nil=>rfl
 |cons a r ih=>simp only[List.all_cons];rw[h a (by simp),ih fun u hu=>h u (by simp[hu])]
theorem eqV_congr {a b:Nat} {x y:VT} (h: ∀u∈x.f5,∀v∈y.f5,eqV a u v=eqV b u v∧eqV a v u=eqV b v u):eqV (a+1) x y=eqV (b+1) x y:=by
 unfold eqV
 rw[dictBy_congr x.f5 h,all2_congr x.f5 y.f5 fun u hu v hv=>(h u hu v hv).1,all_congrT fun u hu=>by rw[findV_congr (step:=1) fun v hv=>(h u hu v hv).2]]
theorem ct_kid {n:Nat} {x k:VT} (h:CT n x) (hk:k∈x.f5): ∃m,n=m+1∧CT m k:=by
 cases n with
 |zero=>rw[SC.kids h] at hk;cases hk
 |succ m=>
  rcases h with h|⟨_,_,h,_⟩
  ·rw[SC.kids h] at hk;cases hk
  ·exact⟨m,rfl,h k hk⟩
theorem eqV_fuelT: ∀(N n n':Nat) (x y:VT) (a b:Nat),n≤N→n'≤N→CT n x→CT n' y→N<a→N<b→eqV a x y=eqV b x y
 |N,n,n',x,y,a,b,h1,h2,cx,cy,ha,hb=>by
  obtain⟨a,rfl⟩: ∃a',a=a'+1:=⟨a-1,by omega⟩
  obtain⟨b,rfl⟩: ∃b',b=b'+1:=⟨b-1,by omega⟩
  refine eqV_congr fun u hu v hv=>?_
  obtain⟨m,rfl,cu⟩:=ct_kid cx hu
  obtain⟨m',rfl,cv⟩:=ct_kid cy hv
  cases N with
  |zero=>omega
  |succ N=>exact⟨eqV_fuelT N m m' u v a b (by omega) (by omega) cu cv (by omega) (by omega),eqV_fuelT N m' m v u a b (by omega) (by omega) cv cu (by omega) (by omega)⟩
theorem EQ_open {n n':Nat} {x y:VT} (cx:CT n x) (cy:CT n' y) (hn:n≤8) (hn':n'≤8):EQ x y=
 if isNum x&&isNum y then ncmp x y==0
 else if x.f0≠y.f0∨x.f5.length≠y.f5.length then false
 else if x.f0=0 then true
 else if x.f0=1 then x.f3==y.f3
 else if x.f0=8 then dictBy EQ y.f5 x.f5
 else if x.f0=9 then x.f5.all (fun k=>(findV EQ y.f5 1 k).isSome)
 else all2 EQ x.f5 y.f5&&x.f4==y.f4:=(eqV_fuelT 8 n n' x y 9 10 hn hn' cx cy (by omega) (by omega)).trans (by conv=>lhs;unfold eqV)
theorem at2_all {E:VT→VT→Bool}: ∀(xs ys:List VT),xs.length=ys.length→(all2 E xs ys=true↔ ∀i,i<xs.length→at2 true E xs ys i=true)
 |[],[],_=>by unfold all2;simp
 |[],_::_,h=>by simp at h
 |_::_,[],h=>by simp at h
 |a::r,b::q,h=>by
  have ih:=at2_all (E:=E) r q (by simpa using h)
  unfold all2
  rw[Bool.and_eq_true,ih]
  constructor
  ·rintro⟨h1,h2⟩ i hi
   cases i with
   |zero=>exact h1
   |succ i=>exact h2 i (by simpa using hi)
  ·intro hall
   exact⟨hall 0 (by simp),fun i hi=>hall (i+1) (by simpa using hi)⟩
theorem firstNo_all {E:Nat→Bool}: ∀(k i:Nat),firstNo E k i=none→ ∀q,i≤q→q<i+k→E q=true
 |0,i,_,q,h1,h2=>by omega
 |k+1,i,h,q,h1,h2=>by
  unfold firstNo at h
  by_cases he:E i=true
  ·rw[if_pos he] at h
   by_cases hq:q=i
   ·rw[hq];exact he
   ·exact firstNo_all k (i+1) h q (by omega) (by omega)
  ·rw[if_neg he] at h;cases h
theorem seqEq {n n':Nat} {x y:VT} (cx:CT n x) (cy:CT n' y) (hn:n≤8) (hn':n'≤8) (hk:x.f0=6∨x.f0=7) (h:x.f0=y.f0) (b1:x.f4=y.f4) (op:Int) (hop:op=37∨op=38) (O:Nat→Option Bool):
 sliceO op x.f5.length y.f5.length (at2 true EQ x.f5 y.f5) O=onlyEq op (EQ x y):=by
 have hnum:isNum x=false:=by unfold isNum;rcases hk with e|e<;>rw[e]<;>rfl
 have hEQ:=EQ_open cx cy hn hn'
 rw[if_neg (by simp[hnum])] at hEQ
 by_cases hl:x.f5.length=y.f5.length
 ·rw[if_neg (by omega),if_neg (by omega),if_neg (by omega),if_neg (by omega),if_neg (by omega),b1,show(y.f4==y.f4)=true from(ba_beq _ _).2 rfl,Bool.and_true] at hEQ
  rw[hEQ]
  unfold sliceO
  rw[if_neg (by rintro⟨h1,_⟩;exact h1 hl)]
  have hm:min x.f5.length y.f5.length=x.f5.length:=by omega
  have hz:(x.f5.length:Int)-y.f5.length=0:=by omega
  rw[hm,hz]
  have hall:=at2_all (E:=EQ) x.f5 y.f5 hl
  cases hf:firstNo (at2 true EQ x.f5 y.f5) x.f5.length 0 with
  |none=>
   have ha:all2 EQ x.f5 y.f5=true:=hall.2 fun i hi=>firstNo_all _ _ hf i (by omega) (by omega)
   rw[ha]
   rcases hop with rfl|rfl<;>rfl
  |some j=>
   have ha:all2 EQ x.f5 y.f5=false:=by
    cases hq:all2 EQ x.f5 y.f5 with
    |false=>rfl
    |true=>
     rw[firstNo_none _ _ fun q _ h2=>hall.1 hq q (by omega)] at hf
     cases hf
   rw[ha]
   rcases hop with rfl|rfl<;>rfl
 ·rw[if_pos (Or.inr hl)] at hEQ
  rw[hEQ]
  unfold sliceO
  rw[if_pos ⟨hl,hop⟩]
  rcases hop with rfl|rfl<;>rfl
theorem rowCmp_V {n n' m:Nat} {k:Int} {x y:VT} (hk:KOk k) (cx:CT n x) (cy:CT n' y) (hn:n≤8) (hn':n'≤8) (h6:x.f0=6∨x.f0=7) (h:x.f0=y.f0) (b1:x.f4=y.f4):
 sliceO (tokOf k) x.f5.length y.f5.length (at2 true EQ x.f5 y.f5) (at2 none (cmpV m k) x.f5 y.f5)=cmpV (m+1) k x y:=by
 by_cases h1:k=13∨k=14
 ·rw[cmpV_eq h1]
  exact seqEq cx cy hn hn' h6 h b1 _ (by rcases h1 with rfl|rfl;exact Or.inl rfl;exact Or.inr rfl) _
 ·rw[cmpV_seq h1 h6 h]
theorem rowV_rowC {B:Nat} {w:World} {P:Value→VT→Prop} {sl:Value} {xs:List VT} (h:RowV B w P sl xs): ∃A c us,sl= .slice A us.length c∧us.length=xs.length∧RowC w A us∧ ∀i (h1:i<us.length) (h2:i<xs.length),P us[i] xs[i]:=by
 obtain⟨A,c,us,e,_,hl,hr,hp⟩:=h
 refine⟨A,c,us,e,hl,fun hne=>?_,hp⟩
 obtain⟨M,o,ea,_,hc⟩:=hr hne
 exact⟨M,o,ea,hc⟩
def CdIH (n:Nat) (d':Int) (w:World):Prop:= ∀(k:Int),KOk k→ ∀(B1 B2:Nat) (v1 v2:Value) (a b:VT),PV B1 n w v1 a→PV B2 n w v2 b→CT n a→CT n b→ ∀W,Below w.heap.size w W→
 Calls Tryz.prog 29 #[.int .i8 (tokOf k),v1,v2, .int .i64 d'] W fun e W'=>CmpR (cmpV (n+1) k a b) e∧Below W.heap.size W W'
theorem CdIH.eq {n:Nat} {d':Int} {w:World} (h:CdIH n d' w) {B1 B2:Nat} {v1 v2:Value} {a b:VT} (p1:PV B1 n w v1 a) (p2:PV B2 n w v2 b) (c1:CT n a) (c2:CT n b) (W:World) (hW:Below w.heap.size w W):
 Calls Tryz.prog 149 #[v1,v2, .int .i64 d'] W fun e W'=>e= .returned (.tuple #[.bool (EQ a b), .nilIface])∧Below W.heap.size W W':=by
 have:=h 13 (Or.inl rfl) B1 B2 v1 v2 a b p1 p2 c1 c2 W hW
 rw[cmpV_eq (Or.inl rfl)] at this
 exact equalDepth_c v1 v2 (EQ a b) d' W (Lib.hid this)
theorem cdRow_c (k:Int) (hk:KOk k) (n:Nat) (d d':Int) (hd:d-1=d') (hw:IntKind.i64.wrap d'=d') (B1 B2:Nat) (s1 s2:Value) (x y:VT) (w:World) (r1:RowV B1 w (PV B1 n w) s1 x.f5) (r2:RowV B2 w (PV B2 n w) s2 y.f5)
 (c1: ∀a∈x.f5,CT n a) (c2: ∀b∈y.f5,CT n b) (l1:x.f5.length≤16) (l2:y.f5.length≤16) (ih:CdIH n d' w):
 Calls Tryz.prog 284 #[.int .i8 (tokOf k),s1,s2, .int .i64 d] w fun e w'=>CmpR (sliceO (tokOf k) x.f5.length y.f5.length (at2 true EQ x.f5 y.f5) (at2 none (cmpV (n+1) k) x.f5 y.f5)) e∧Below w.heap.size w w':=by
 obtain⟨A,ca,us,rfl,e1,q1,p1⟩:=rowV_rowC r1
 obtain⟨A',cb,vs,rfl,e2,q2,p2⟩:=rowV_rowC r2
 have:=sliceCompare_c (tokOf k) d d' A A' ca cb us vs (at2 true EQ x.f5 y.f5) (at2 none (cmpV (n+1) k) x.f5 y.f5) w hk.tok hd hw q1 q2 (by omega) (by omega)
  (fun i h=>(p1 i h (by omega)).iface) (fun i h=>(p2 i h (by omega)).iface)
  (fun i h1 h2 W hW=>by
   rw[at2_eq (by omega) (by omega)]
   exact ih.eq (p1 i h1 (by omega)) (p2 i h2 (by omega)) (c1 _ (List.getElem_mem _)) (c2 _ (List.getElem_mem _)) W hW)
  (fun _ _ i h1 h2 W hW=>by
   rw[at2_eq (by omega) (by omega)]
   exact ih k hk B1 B2 _ _ _ _ (p1 i h1 (by omega)) (p2 i h2 (by omega)) (c1 _ (List.getElem_mem _)) (c2 _ (List.getElem_mem _)) W hW)
 rw[e1,e2] at this
 rw[e1,e2]
 exact this
end Go.Proofs.YtkplnbjgkhmbcaaGreatDoor
