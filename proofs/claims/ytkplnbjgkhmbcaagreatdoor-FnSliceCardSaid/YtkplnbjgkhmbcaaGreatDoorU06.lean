/- RatA RatB RatC RatD RatE RatG RatH RatS CmpA CmpB -/
import Derived.Test.YtkplnbjgkhmbcaaGreatDoorU05
import Derived.Test.YtkplnbjgkhmbcaaGreatDoorU04
import Derived.Test.YtkplnbjgkhmbcaaGreatDoorU03
import Derived.Test.YtkplnbjgkhmbcaaGreatDoorU02
import Derived.Lib.SliceRun
import Derived.BigQuiet
import Derived.Deep.QuietTactic
import Derived.WalkLawsBesides
import Derived.Defers
import Derived.Deep.RegionHeld3
import Derived.Deep.DeepCutAuto
import Derived.Lib.Bytealg
namespace Go.Proofs.YtkplnbjgkhmbcaaGreatDoor
open Go.RowKit Go.Shelf Go.Proofs.YtkplnbjgkhmbcaaGreatDoorW.PrintWords Go.Proofs.YtkplnbjgkhmbcaaGreatDoorW.PrintLast Go.Proofs.YtkplnbjgkhmbcaaGreatDoorW.PrintMore
set_option linter.unusedVariables false
set_option linter.unusedSimpArgs false
set_option maxRecDepth 100000 in
theorem makeOne_c (w:World):
 Calls Tryz.prog 161 #[.slice none 0 0, .int .i64 1] w fun e w'=>
  e= .returned (.slice (some ⟨w.heap.size,0,none⟩) 1 1)∧IRow .u64 w' w.heap.size [0]∧Below w.heap.size w w'∧w'.heap.size=w.heap.size+1:=by
 obtain⟨i,hi,hzz⟩:=Option.map_eq_some_iff.1 wordInfo
 simp only[Prod.mk.injEq] at hzz
 obtain⟨hz,hs,hb⟩:=hzz
 have hmk:=fun(w:World)=>run_make (P:=Tryz.prog) w 194 265 i (.int .u64 0) Tryz.underlying194 hi hz .i64 .i64 1 1 (by omega) (by omega) (by rw[hb];omega) (by omega)
 simp only[hs,Nat.mul_one] at hmk
 have hcl:(Value.int .u64 0).cells=#[.int .u64 0]:=rfl
 rw[hcl] at hmk
 clear hcl hs hb hi hz
 go_enter Tryz.func161,Tryz.ntmps161
 go_wp2
 go_ret
 exact⟨rfl,irow_zeros w .u64 1 _ _ (by decide),(Below.refl _ w).alloc (Nat.le_refl _) _,by simp⟩
theorem irow_set1 {w:World} {g:Nat} {x y:Int} (h:IRow .u64 w g [x]):IRow .u64 (w.setCell ⟨g,0,none⟩ (.int .u64 y)) g [y]:=by
 have:=h.set 0 (by simp) y
 simpa using this
def One (w:World) (x:Int) (e:Ending) (w':World):Prop:=
 e= .returned (.slice (some ⟨w.heap.size,0,none⟩) 1 1)∧IRow .u64 w' w.heap.size [x]∧Below w.heap.size w w'∧w'.heap.size=w.heap.size+1
set_option maxRecDepth 100000 in
theorem setWordO_c (x:Int) (w:World) (hx:x≠0):Calls Tryz.prog 133 #[.slice none 0 0, .int .u64 x] w (One w x):=by
 have ex:(x==0)=false:=by simp[hx]
 have HM:=Lib.hid (fun w=>makeOne_c w)
 clear hx
 go_enter Tryz.func133,Tryz.ntmps133
 go_wp2_with (go_at_call 161;refine(HM.out _).mono ?_;rintro e w1 ⟨rfl,hr1,hb1,hz1⟩;have q1:=hr1.1 0 (by simp);have q2:=hr1.2 0 (by simp);have HR1:=Lib.hid hr1;have HB1:=Lib.hid hb1;have HZ1:=Lib.hid hz1;clear hr1 hb1 hz1)
 go_ret
 exact⟨rfl,irow_set1 HR1.out,HB1.out.setCell (Nat.le_refl _) _,by have:=HZ1.out;simpa [World.setCell] using this⟩
set_option maxRecDepth 100000 in
theorem setWordR_c (r:Nat) (x y:Int) (w:World) (hx:x≠0) (hr:IRow .u64 w r [y]):Calls Tryz.prog 133 #[.slice (some ⟨r,0,none⟩) 1 1, .int .u64 x] w fun e w'=>e= .returned (.slice (some ⟨r,0,none⟩) 1 1)∧w'=w.setCell ⟨r,0,none⟩ (.int .u64 x):=by
 have ex:(x==0)=false:=by simp[hx]
 have q1:=hr.1 0 (by simp)
 have q2:=hr.2 0 (by simp)
 have HM:Hid (Calls Tryz.prog 161 #[.slice (some ⟨r,0,none⟩) 1 1, .int .i64 1] w fun e w'=>e= .returned (.slice (some ⟨r,0,none⟩) 1 1)∧w=w'):=by
  refine Lib.hid ?_
  clear hr q1 q2 ex hx
  go_enter Tryz.func161,Tryz.ntmps161
  go_wp2
  go_ret
  exact⟨rfl,rfl⟩
 clear hx hr
 go_enter Tryz.func133,Tryz.ntmps133
 go_wp2_with (go_at_call 161;with_reducible refine HM.out.mono ?_;rintro e w1 ⟨rfl,rfl⟩)
 go_ret
 exact⟨rfl,rfl⟩
set_option maxRecDepth 100000 in
theorem setUint64O_c (x:Int) (w:World) (h0:0<x) (h1:x<18446744073709551616):Calls Tryz.prog 162 #[.slice none 0 0, .int .u64 x] w (One w x):=by
 have HS:=Lib.hid (setWordO_c x w (by omega))
 go_enter Tryz.func162,Tryz.ntmps162
 go_wp2_with (go_at_call 133;(with_reducible refine HS.out.mono ?_);rintro e w1 ⟨rfl,hr,hb,hz⟩;have HR:=Lib.hid (And.intro hr (And.intro hb hz));clear hr hb hz)
 go_ret
 exact⟨rfl,HR.out⟩
set_option maxRecDepth 100000 in
theorem setUint64Z_c (w:World):Calls Tryz.prog 162 #[.slice none 0 0, .int .u64 0] w fun e w'=>e= .returned (.slice none 0 0)∧w'=w:=by
 have HS:Hid (∀w,Calls Tryz.prog 133 #[.slice none 0 0, .int .u64 0] w fun e w'=>e= .returned (.slice none 0 0)∧w=w'):=by
  refine Lib.hid fun w=>?_
  go_enter Tryz.func133,Tryz.ntmps133
  go_wp2
  go_ret
  exact⟨rfl,rfl⟩
 go_enter Tryz.func162,Tryz.ntmps162
 go_wp2_with (go_at_call 133;with_reducible refine(HS.out _).mono ?_;rintro e w1 ⟨rfl,rfl⟩)
 go_ret
 exact⟨rfl,rfl⟩
set_option maxRecDepth 100000 in
theorem natSetOne_c (B:Nat) (v:Value) (x:Int) (w:World) (h:Sl .u64 B w v [x]):
 Calls Tryz.prog 160 #[.slice none 0 0,v] w (One w x):=by
 obtain⟨A,c,rfl,h1,h2,h3⟩:=h
 obtain⟨b,o,rfl,hB,hlt,hc⟩:=h3 (by simp)
 have HC:=Lib.hid hc
 clear hc h3 h2
 go_enter Tryz.func160,Tryz.ntmps160
 go_wp2_with (go_at_call 161;refine(makeOne_c _).mono ?_;rintro e w1 ⟨rfl,hr1,hb1,hsz1⟩;obtain⟨w2,hcp,hr2,hb2,hz2⟩:=copy_fresh w1 w.heap.size b o c 1 [x] _ (by simp) hr1 (fun j hj=>(hb1.cell (p:=⟨b,o+j,none⟩) hlt).trans (HC.out j hj));have HR:=Lib.hid hr2;have HB:=Lib.hid (hb2 _ _ (Nat.le_refl _) hb1);have HZ:=Lib.hid (And.intro hsz1 hz2);clear hr1 hb1 hr2 hb2 hsz1 hz2;simp only[List.length_singleton] at hcp)
 go_ret
 exact⟨rfl,HR.out,HB.out,by have:=HZ.out;omega⟩
set_option maxRecDepth 100000 in
theorem natOne_c (w:World):Calls Tryz.prog 172 #[] w fun e w'=>e= .returned (.slice (some ⟨w.heap.size,0,none⟩) 1 1)∧w'=w.alloc (.cells #[.int .u64 1] 265):=by
 go_enter Tryz.func172,Tryz.ntmps172
 go_wp2
 go_ret
 exact⟨rfl,rfl⟩
set_option maxRecDepth 100000 in
theorem intOne_c (w:World):Calls Tryz.prog 139 #[] w fun e w'=> ∃gx u,e= .returned (.pointer (some ⟨gx,0,none⟩))∧w.heap.size≤gx∧PI w' gx 0 false u [1]∧Below w.heap.size w w':=by
 go_enter Tryz.func139,Tryz.ntmps139
 go_wp2_with (go_at_call 172;refine(natOne_c _).mono ?_;rintro e w1 ⟨rfl,rfl⟩)
 go_ret
 have e1: ∀o,(w.alloc o).heap.size=w.heap.size+1:=fun o=>by simp
 refine⟨w.heap.size+1, .slice (some ⟨w.heap.size,0,none⟩) 1 1,rfl,by omega,⟨⟨_,_,by simpa using blk_new (w.alloc (.cells #[.int .u64 1] 265)) (.cells #[.bool false, .slice (some ⟨w.heap.size,0,none⟩) 1 1] 196),rfl,rfl⟩,⟨_,1,rfl,Nat.le_refl _,by simp,fun _=>⟨w.heap.size,0,rfl,Nat.zero_le _,by simp;omega,fun j hj=>?_⟩⟩,?_,?_⟩,((Below.refl _ _).alloc (Nat.le_refl _) _).alloc (by simp) _⟩
 ·have hj0:j=0:=by simpa using hj
  subst hj0
  have h0:(w.alloc (.cells #[.int .u64 1] 265)).cell? ⟨w.heap.size,0,none⟩=some (.int .u64 1):=blk_cell (blk_new _ _) 0 _ rfl
  exact(((Below.refl _ _).alloc (Nat.le_refl _) _).cell (p:=⟨w.heap.size,0+0,none⟩) (by simp)).trans h0
 ·intro z hz
  rw[List.mem_singleton] at hz;omega
 ·intro _;simp
def Wrote (w:World) (g o:Nat) (x:Int) (b:Bool) (e:Ending) (w':World):Prop:=
 e= .returned (.pointer (some ⟨g,o,none⟩))∧ ∃W,w'=(W.setCell ⟨g,o+1,none⟩ (.slice (some ⟨w.heap.size,0,none⟩) 1 1)).setCell ⟨g,o,none⟩ (.bool b)∧IRow .u64 W w.heap.size [x]∧Below w.heap.size w W∧w.heap.size<W.heap.size
set_option maxRecDepth 100000 in
theorem intSetUint64_c (g o:Nat) (n0:Bool) (x:Int) (w:World) (h0:0<x) (h1:x<18446744073709551616) (c0:w.cell? ⟨g,o,none⟩=some (.bool n0)) (c1:w.cell? ⟨g,o+1,none⟩=some (.slice none 0 0)) (f0:w.frozen? ⟨g,o,none⟩=false) (f1:w.frozen? ⟨g,o+1,none⟩=false):
 Calls Tryz.prog 138 #[.pointer (some ⟨g,o,none⟩), .int .u64 x] w (Wrote w g o x false):=by
 have HS:=Lib.hid (setUint64O_c x w h0 h1)
 have hlt:=lt_of_cell c0
 go_enter Tryz.func138,Tryz.ntmps138
 go_wp2_with (go_at_call 162;(with_reducible refine HS.out.mono ?_);rintro e w1 ⟨rfl,hr,hb,hz⟩;have HR:=Lib.hid (And.intro hr (And.intro hb (Nat.lt_of_lt_of_eq (Nat.lt_succ_self _) hz.symm)));have d0:=(hb.cell (p:=⟨g,o,none⟩) hlt).trans c0;have d1:=(hb.cell (p:=⟨g,o+1,none⟩) hlt).trans c1;have e0:=(hb.frozen (p:=⟨g,o,none⟩) hlt).trans f0;have e1:=(hb.frozen (p:=⟨g,o+1,none⟩) hlt).trans f1;clear hr hb hz)
 go_ret
 exact⟨rfl,w1,rfl,HR.out⟩
set_option maxRecDepth 100000 in
theorem intSetUint64Z_c (g o:Nat) (n0:Bool) (w:World) (c0:w.cell? ⟨g,o,none⟩=some (.bool n0)) (c1:w.cell? ⟨g,o+1,none⟩=some (.slice none 0 0)) (f0:w.frozen? ⟨g,o,none⟩=false) (f1:w.frozen? ⟨g,o+1,none⟩=false):
 Calls Tryz.prog 138 #[.pointer (some ⟨g,o,none⟩), .int .u64 0] w fun e w'=>e= .returned (.pointer (some ⟨g,o,none⟩))∧w'=(w.setCell ⟨g,o+1,none⟩ (.slice none 0 0)).setCell ⟨g,o,none⟩ (.bool false):=by
 have HS:=Lib.hid (setUint64Z_c w)
 go_enter Tryz.func138,Tryz.ntmps138
 go_wp2_with (go_at_call 162;(with_reducible refine HS.out.mono ?_);rintro e w1 ⟨rfl,rfl⟩)
 go_ret
 exact⟨rfl,rfl⟩
set_option maxRecDepth 100000 in
theorem intSetOneAt_c (g o g2 o2:Nat) (neg n0:Bool) (v:Value) (x:Int) (w:World) (h:PI w g o neg v [x]) (hne:g2≠g) {cs:Array Value} {t:TypeId} (hk:w.heap[g2]?=some (.cells cs t (0,0))) (c0:cs[o2]?=some (.bool n0)) (c1:cs[o2+1]?=some (.slice none 0 0)):
 Calls Tryz.prog 132 #[.pointer (some ⟨g2,o2,none⟩), .pointer (some ⟨g,o,none⟩)] w (Wrote w g2 o2 x neg):=by
 obtain⟨cs1,ct1,hblk,_⟩:=h.blk
 have hpe:(binOp .neq 118 (.pointer (some ⟨g2,o2,none⟩)) (.pointer (some ⟨g,o,none⟩))).run Tryz.prog w= .ok (.bool true) w:=by
  obtain⟨i,hi,hs⟩:=Option.map_eq_some_iff.1 intInfo
  exact run_neq_ptr_other w Tryz.underlying118 hi (by rw[hs];decide) (by intro e;injection e with e;exact hne e) hk hblk
 clear hblk
 have d0:=blk_cell hk o2 _ c0
 have d1:=blk_cell hk (o2+1) _ c1
 have g0:=blk_free hk o2
 have g1:=blk_free hk (o2+1)
 have hlt2:g2<w.heap.size:=lt_of_cell d0
 clear hk c0 c1
 have c0:=h.c0
 have c1:=h.c1
 have hlt:=h.lt
 have HC:=Lib.hid (fun w' (hb:Below w.heap.size w w')=>natSetOne_c _ v x w' (h.sl.below hb))
 have hnq:g≠g2:=Ne.symm hne
 obtain⟨A,c,rfl,_⟩:=h.sl.c
 simp only[List.length_singleton] at c1 HC
 clear h
 have HB0:Hid (Below w.heap.size w w):=Below.refl _ _
 go_enter Tryz.func132,Tryz.ntmps132
 go_wp2
 go_region_with (go_at_call 160;refine(HC.out _ HB0.out.drew).mono ?_;rintro e w1 ⟨rfl,hr,hb,hz⟩;have hb1:=HB0.out.drew.trans hb;have HR:=Lib.hid (And.intro hr (And.intro hb1 (Nat.lt_of_lt_of_eq (Nat.lt_succ_self _) hz.symm)));have q0:=(hb1.cell (p:=⟨g2,o2,none⟩) hlt2).trans d0;have q1:=(hb1.cell (p:=⟨g2,o2+1,none⟩) hlt2).trans d1;have r0:=(hb1.frozen (p:=⟨g2,o2,none⟩) hlt2).trans g0;have r1:=(hb1.frozen (p:=⟨g2,o2+1,none⟩) hlt2).trans g1;have p0:=(hb1.cell (p:=⟨g,o,none⟩) hlt).trans c0;have p1:=(hb1.cell (p:=⟨g,o+1,none⟩) hlt).trans c1;clear hr hb hz hb1)
 all_goals go_wp2
 all_goals go_ret
 all_goals exact⟨rfl,w1,rfl,HR.out⟩
theorem and63 (s:Nat) (h:s<64):Go.bits .and .u64 (s:Int) 63=(s:Int):=by
 have:=and_mask s 6 (by omega) (by omega)
 rw[Nat.mod_eq_of_lt (by omega)] at this
 exact this
theorem shr_part (x:Int) (s t:Nat) (h:s+t=64):x/2^t=x*2^s/18446744073709551616:=by
 have e:(18446744073709551616:Int)=2^t*2^s:=by rw[←Int.pow_add,show t+s=64 from by omega];decide
 rw[e,Int.mul_ediv_mul_of_pos_left _ _ (two_pos s)]
theorem wordPInfo:(Tryz.prog.info? 265).map (·.size)=some 1:=wordSize
set_option maxRecDepth 100000 in
theorem same_c (r:Nat) (w:World):Calls Tryz.prog 195 #[.slice (some ⟨r,0,none⟩) 1 1, .slice (some ⟨r,0,none⟩) 1 1] w fun e w'=>e= .returned (.bool true)∧ ∃k,w'=w.drewN k:=by
 obtain⟨i,hi,_⟩:=Option.map_eq_some_iff.1 wordPInfo
 have hpe:=fun(w:World)=>run_eql_ptr_same (P:=Tryz.prog) (w:=w) ⟨r,0,none⟩ Tryz.underlying341 hi
 go_enter Tryz.func195,Tryz.ntmps195
 go_wp2
 go_quiet (fail)
 go_wp2
 go_ret
 exact⟨rfl,_,rfl⟩
set_option maxRecDepth 100000 in
theorem lsh0_c (r:Nat) (w:World):Calls Tryz.prog 173 #[.slice (some ⟨r,0,none⟩) 1 1, .slice (some ⟨r,0,none⟩) 1 1, .int .u64 0] w fun e w'=>e= .returned (.slice (some ⟨r,0,none⟩) 1 1)∧ ∃k,w'=w.drewN k:=by
 have HS:=Lib.hid (same_c r w)
 go_enter Tryz.func173,Tryz.ntmps173
 go_wp2_with (go_at_call 195;with_reducible refine HS.out.mono ?_;rintro e w1 ⟨rfl,k,rfl⟩)
 go_ret
 exact⟨rfl,_,rfl⟩
set_option maxRecDepth 100000 in
set_option maxHeartbeats 1000000 in
theorem lshVU_c (g b i c1 c:Nat) (x:Int) (s:Nat) (w:World) (h0:0≤x) (h1:x<18446744073709551616) (hs:0<s) (hs2:s<64) (u:Int) (hz:w.cell? ⟨g,i,none⟩=some (.int .u64 u)) (hf:w.frozen? ⟨g,i,none⟩=false) (hx:w.cell? ⟨b,0,none⟩=some (.int .u64 x)) (hb:b≠g):
 Calls Tryz.prog 196 #[.slice (some ⟨g,i,none⟩) 1 c1, .slice (some ⟨b,0,none⟩) 1 c, .int .u64 s] w fun e w'=>e= .returned (.int .u64 (x*2^s/18446744073709551616))∧w'=w.setCell ⟨g,i,none⟩ (.int .u64 (x*2^s%18446744073709551616)):=by
 have HG:Hid (Calls Tryz.prog 219 #[.slice (some ⟨g,i,none⟩) 1 c1, .slice (some ⟨b,0,none⟩) 1 c, .int .u64 s] w fun e w'=>e= .returned (.int .u64 (x*2^s/18446744073709551616))∧w'=w.setCell ⟨g,i,none⟩ (.int .u64 (x*2^s%18446744073709551616))):=by
  refine Lib.hid ?_
  have s0:((s:Int)==0)=false:=beq_eq_false_iff_ne.2 (by omega)
  obtain⟨t,ht⟩: ∃t:Nat,s+t=64:=⟨64-s,by omega⟩
  have m1:Go.bits .and .u64 (s:Int) 63=(s:Int):=and63 s hs2
  have m2:IntKind.u64.wrap (64-(s:Int))=(t:Int):=by rw[IntKind.wrap_u64];omega
  have m3:Go.bits .and .u64 (t:Int) 63=(t:Int):=and63 t (by omega)
  have m4:Op.shift .shr .u64 x .u64 (t:Int)=pure (.int .u64 (x*2^s/18446744073709551616)):=by
   rw[shift_shr_any .u64 .u64 x t (by omega),Int.toNat_natCast,←shr_part x s t ht]
   rw[show min t IntKind.u64.bits=t from by simp[IntKind.bits];omega]
  have m5:Op.shift .shl .u64 x .u64 (s:Int)=pure (.int .u64 (x*2^s%18446744073709551616)):=by
   rw[shift_shl_any .u64 .u64 x s (by omega),Int.toNat_natCast]
   rw[show min s IntKind.u64.bits=s from by simp[IntKind.bits];omega,IntKind.wrap_u64]
  generalize x*2^s/18446744073709551616=q at m4⊢
  generalize x*2^s%18446744073709551616=m at m5⊢
  clear ht hs hs2
  go_enter Tryz.func219,Tryz.ntmps219
  go_wp2
  refine wp_loop_rounds 1 ?_
  rw[rounds_succ]
  go_wp2
  go_ret
  exact⟨rfl,rfl⟩
 go_enter Tryz.func196,Tryz.ntmps196
 go_wp2_with (go_at_call 219;with_reducible refine HG.out.mono ?_;rintro e w1 ⟨rfl,rfl⟩)
 go_ret
 exact⟨rfl,rfl⟩
theorem shl1_zero (x:Int) (q r:Nat) (hx:0≤x) (hx1:x<18446744073709551616):shl1 x q 0=List.replicate q 0++[x,0]:=by
 unfold shl1
 simp only[Int.pow_zero,Int.mul_one]
 rw[Int.emod_eq_of_lt hx hx1,Int.ediv_eq_zero_of_lt hx hx1]
theorem set_two (q:Nat) (m c:Int):((List.replicate (q+2) (0:Int)).set q m).set (q+1) c=List.replicate q 0++[m,c]:=by
 rw[show List.replicate (q+2) (0:Int)=List.replicate q 0++[0,0] from by rw[←List.replicate_append_replicate];rfl]
 rw[List.set_append_right _ _ (by simp),List.set_append_right _ _ (by simp)]
 simp
theorem irow_zeros_set (g:Nat) (l:List Int): ∀(k o:Nat) (w:World),IRow .u64 w g l→o+k≤l.length→(∀j (h:j<l.length),o≤j→j<o+k→l[j]=0)→IRow .u64 (w.setCells g o (List.replicate k (.int .u64 0))) g l:=by
 intro k
 induction k with
 |zero=>intro o w h _ _;exact h
 |succ k ih=>
  intro o w h hl hz
  rw[List.replicate_succ]
  show IRow .u64 ((w.setCell ⟨g,o,none⟩ (.int .u64 0)).setCells g (o+1) (List.replicate k (.int .u64 0))) g l
  refine ih (o+1) _ ?_ (by omega) (fun j hj h1 h2=>hz j hj (by omega) (by omega))
  have h1:=h.set o (by omega) 0
  have e:l.set o 0=l:=by
   have h0:=hz o (by omega) (Nat.le_refl _) (by omega)
   rw[←h0];exact List.set_getElem_self _
  rw[e] at h1
  exact h1
theorem clear_low (w:World) (g q c:Nat) (l:List Int) (hl:q≤l.length) (hz: ∀j (h:j<l.length),j<q→l[j]=0) (hq:0<q) (hr:IRow .u64 w g l):
 ∃w2,(∀ty:TypeId,(Builtin.clear_ #[194] ty #[.slice (some ⟨g,0,none⟩) q c]).run Tryz.prog w= .ok (.tuple #[]) w2)∧IRow .u64 w2 g l∧(∀B W,B≤g→Below B W w→Below B W w2)∧w2.heap.size=w.heap.size:=by
 refine⟨w.setCells g 0 (List.replicate q (.int .u64 0)),fun ty=>?_,irow_zeros_set g l q 0 w hr (by omega) (fun j h _ h2=>hz j h (by omega)),fun B W hB hb=>below_setCells hB _ _ _ hb,size_setCells _ _ _ _⟩
 refine Lib.run_clear_slice w _ 265 ty (.int .u64 0) Tryz.underlying194 zeroWord rfl rfl g 0 q c hq ?_ ?_
 ·intro j hj
  rw[Nat.zero_add,hr.1 j (by omega)];rfl
 ·intro j hj
  rw[Nat.zero_add];exact hr.2 j (by omega)
theorem clear_none (w:World) (A:Option Addr) (c:Nat) (ty:TypeId):(Builtin.clear_ #[194] ty #[.slice A 0 c]).run Tryz.prog w= .ok (.tuple #[]) w:=by
 have hu:Tryz.prog.underlying 194=some (.slice 265):=Tryz.underlying194
 cases A<;>simp[Builtin.clear_,run_underlying hu,zeroWord]
theorem clear_any (w:World) (g q c:Nat) (l:List Int) (hl:q≤l.length) (hz: ∀j (h:j<l.length),j<q→l[j]=0) (hr:IRow .u64 w g l):
 ∃w2,(∀ty:TypeId,(Builtin.clear_ #[194] ty #[.slice (some ⟨g,0,none⟩) q c]).run Tryz.prog w= .ok (.tuple #[]) w2)∧IRow .u64 w2 g l∧(∀B W,B≤g→Below B W w→Below B W w2)∧w2.heap.size=w.heap.size:=by
 rcases Nat.eq_zero_or_pos q with h|h
 ·subst h
  exact⟨w,fun ty=>clear_none w _ c ty,hr,fun _ _ _ hb=>hb,rfl⟩
 ·exact clear_low w g q c l hl hz h hr
set_option maxRecDepth 100000 in
theorem makeOver_c (r n:Nat) (w:World) (h0:2≤n) (h1:n≤1000000):
 Calls Tryz.prog 161 #[.slice (some ⟨r,0,none⟩) 1 1, .int .i64 n] w fun e w'=>
  ∃c,e= .returned (.slice (some ⟨w.heap.size,0,none⟩) n c)∧n≤c∧c≤n+4∧IRow .u64 w' w.heap.size (List.replicate n 0)∧Below w.heap.size w w'∧w'.heap.size=w.heap.size+1:=by
 obtain⟨i,hi,hzz⟩:=Option.map_eq_some_iff.1 wordInfo
 simp only[Prod.mk.injEq] at hzz
 obtain⟨hz,hs,hb⟩:=hzz
 have hmk:=fun(l c:Int) (h0:0≤l) (hlc:l≤c) (hc:c≤4398046511200) (w:World)=>run_make (P:=Tryz.prog) w 194 265 i (.int .u64 0) Tryz.underlying194 hi hz .i64 .i64 l c h0 hlc (by rw[hb];omega) (by omega)
 simp only[hs,Nat.mul_one] at hmk
 have hcl:(Value.int .u64 0).cells=#[.int .u64 0]:=rfl
 rw[hcl] at hmk
 have m2:=hmk n (n+4) (by omega) (by omega) (by omega)
 rw[show((n:Int)+4).toNat=n+4 from by omega,Int.toNat_natCast] at m2
 clear hmk hcl hs hb hi hz
 have hb1:((n:Int)==1)=false:=beq_eq_false_iff_ne.2 (by omega)
 have hb2: ¬(n:Int)≤1:=by omega
 have hb3: ¬n≤1:=by omega
 go_enter Tryz.func161,Tryz.ntmps161
 go_wp2
 go_ret
 exact⟨n+4,rfl,by omega,by omega,irow_zeros w .u64 n _ _ (by omega),(Below.refl _ w).alloc (Nat.le_refl _) _,by simp⟩
theorem rep_low (q:Nat) (l:List Int) (j:Nat) (h:j<(List.replicate q (0:Int)++l).length) (hj:j<q):(List.replicate q (0:Int)++l)[j]=0:=by
 rw[List.getElem_append_left (by simpa using hj),List.getElem_replicate]
theorem shl1_low (x:Int) (q r:Nat): ∀j (h:j<(shl1 x q r).length),j<q→(shl1 x q r)[j]=0:=fun j h hj=>rep_low q _ j h hj
theorem copy_one (w:World) (g q c1 r:Nat) (x:Int) (l0:List Int) (hq:q<l0.length) (hr:IRow .u64 w g l0) (hx:w.cell? ⟨r,0,none⟩=some (.int .u64 x)):
 ∃w2,(∀ty:TypeId,(Builtin.copy_ #[194,194] ty #[.slice (some ⟨g,q,none⟩) 1 c1, .slice (some ⟨r,0,none⟩) 1 1]).run Tryz.prog w= .ok (.int .i64 1) w2)∧w2=w.setCell ⟨g,q,none⟩ (.int .u64 x):=by
 refine⟨_,fun ty=>?_,rfl⟩
 have:=run_copy_cells (P:=Tryz.prog) w 194 194 ty 265 g q 1 c1 ⟨r,0,none⟩ 1 1 [.int .u64 x] Tryz.underlying194 wordSize (by simp) ?_ ?_ ?_ ?_
 ·have h2:(Builtin.copy_ #[194,194] ty #[.slice (some ⟨g,q,none⟩) 1 c1, .slice (some ⟨r,0,none⟩) 1 1]).run Tryz.prog w= .ok (.int .i64 1) (w.setCells g q [.int .u64 x]):=by simpa [goInt] using this
  exact h2
 ·intro j v hv
  obtain⟨hj,rfl⟩:=List.getElem?_eq_some_iff.1 hv
  have hj0:j=0:=by simpa using hj
  subst hj0
  rw[addr_add];exact hx
 ·intro j hj
  have hj0:j=0:=by simpa using hj
  subst hj0
  rw[Nat.add_zero,hr.1 q hq];rfl
 ·intro j hj
  have hj0:j=0:=by simpa using hj
  subst hj0
  rw[Nat.add_zero];exact hr.2 q hq
 ·intro v hv
  rw[List.mem_singleton] at hv;rw[hv];rfl
theorem after_shift {w w1 w2:World} {q a n:Nat} {m:Int} (hr:IRow .u64 w1 w.heap.size (List.replicate n 0)) (hb:Below w.heap.size w w1) (hz:w1.heap.size=w.heap.size+1) (ha:q+1=a) (hn:a+1=n) (h:w2=w1.setCell ⟨w.heap.size,q,none⟩ (.int .u64 m)):
 w2.cell? ⟨w.heap.size,a,none⟩=some (.int .u64 0)∧w2.frozen? ⟨w.heap.size,a,none⟩=false∧IRow .u64 w2 w.heap.size ((List.replicate n 0).set q m)∧Below w.heap.size w w2∧w2.heap.size=w.heap.size+1:=by
 subst h
 have h1:=hr.set q (by simp;omega) m
 refine⟨?_,?_,h1,hb.setCell (Nat.le_refl _) _,by rw[size_set];exact hz⟩
 ·rw[cell_setCell_ne _ _ _ _ (Or.inr (by show q≠a;omega))]
  have:=hr.1 a (by simp;omega)
  rwa [List.getElem_replicate] at this
 ·rw[frozen_setCell];exact hr.2 a (by simp;omega)
set_option maxRecDepth 100000 in
set_option maxHeartbeats 4000000 in
theorem lsh1_c (r:Nat) (x:Int) (s:Nat) (w:World) (hr:IRow .u64 w r [x]) (h0:0<x) (h1:x<18446744073709551616) (hs:0<s) (hs2:s≤5000) (hrl:r<w.heap.size):
 Calls Tryz.prog 173 #[.slice (some ⟨r,0,none⟩) 1 1, .slice (some ⟨r,0,none⟩) 1 1, .int .u64 s] w fun e w'=> ∃u zs,e= .returned u∧Sl .u64 w.heap.size w' u zs∧Words zs∧Top zs∧leN zs=x*2^s∧zs.length≤s/64+2∧Below w.heap.size w w':=by
 have s0:((s:Int)==0)=false:=beq_eq_false_iff_ne.2 (by omega)
 obtain⟨q,hq⟩: ∃q,s/64=q:=⟨_,rfl⟩
 obtain⟨t,ht⟩: ∃t,s%64=t:=⟨_,rfl⟩
 have hst:64*q+t=s:=by omega
 have ht64:t<64:=by omega
 have d1:((s:Int)).tdiv 64=(q:Int):=by rw[Int.tdiv_eq_ediv_of_nonneg (by omega)];omega
 have d2:((s:Int)).tmod 64=(t:Int):=by rw[Int.tmod_eq_emod_of_nonneg (by omega)];omega
 have d3:(s:Int)/64=(q:Int):=by omega
 have d4:(s:Int)%64=(t:Int):=by omega
 have hx0:w.cell? ⟨r,0,none⟩=some (.int .u64 x):=by simpa using hr.1 0 (by simp)
 obtain⟨a,ha⟩: ∃a,q+1=a:=⟨_,rfl⟩
 obtain⟨n,hn⟩: ∃n,a+1=n:=⟨_,rfl⟩
 have e1:(1:Int)+(q:Int)=(a:Int):=by omega
 have e2:(a:Int)+1=(n:Int):=by omega
 have e3:(a:Int)-1=(q:Int):=by omega
 have e4:a-q=1:=by omega
 have e5:(q:Int)≤(a:Int):=by omega
 have e6:(a:Int)<(n:Int):=by omega
 have e7:(q:Int)≤100:=by omega
 have e8:(a:Int)≤100:=by omega
 have HMk:=Lib.hid (makeOver_c r n w (by omega) (by omega))
 have HL:=Lib.hid (fun(w1:World) (cc:Nat) (hr1:IRow .u64 w1 w.heap.size (List.replicate n 0)) (hb1:Below w.heap.size w w1) (htp:0<t)=>lshVU_c w.heap.size r q (cc-q) 1 x t w1 (by omega) h1 htp ht64 0 (by have:=hr1.1 q (by simp;omega);rwa [List.getElem_replicate] at this) (hr1.2 q (by simp;omega)) ((hb1.cell (p:=⟨r,0,none⟩) hrl).trans hx0) (by omega))
 have HF:Hid (∀(w2:World),IRow .u64 w2 w.heap.size ((List.replicate n 0).set q (x*2^t%18446744073709551616))→IRow .u64 (w2.setCell ⟨w.heap.size,a,none⟩ (.int .u64 (x*2^t/18446744073709551616))) w.heap.size (shl1 x q t)):=Lib.hid fun w2 h=>by
  have h2:=h.set a (by simp;omega) (x*2^t/18446744073709551616)
  have e:((List.replicate n (0:Int)).set q (x*2^t%18446744073709551616)).set a (x*2^t/18446744073709551616)=shl1 x q t:=by
   rw[←hn,←ha];exact set_two q _ _
  rw[e] at h2;exact h2
 have HE:=Lib.hid (And.intro (shl1_num x q t) (And.intro (shl1_words x q t (by omega) h1 (by omega)) (shl1_len x q t)))
 rw[hst] at HE
 have HZ:=Lib.hid (shl1_low x q t)
 have HX:=Lib.hid (And.intro ha hn)
 have hxlt:x%18446744073709551616=x:=Int.emod_eq_of_lt (by omega) h1
 have hxdz:x/18446744073709551616=0:=Int.ediv_eq_zero_of_lt (by omega) h1
 have hcn:=fun(W:World) (A:Option Addr) (c:Nat) (ty:TypeId)=>clear_none W A c ty
 by_cases htz:t=0
 ·subst htz
  have HF0:Hid (∀(w2:World),IRow .u64 w2 w.heap.size ((List.replicate n 0).set q x)→IRow .u64 (w2.setCell ⟨w.heap.size,a,none⟩ (.int .u64 0)) w.heap.size (shl1 x q 0)):=Lib.hid fun w2 h=>by
   have h2:=h.set a (by simp;omega) 0
   rw[shl1_zero x q 0 (by omega) h1,←set_two q x 0,show q+2=n from by omega,ha]
   exact h2
  have HX0:=Lib.hid (fun w1 (hb1:Below w.heap.size w w1)=>(hb1.cell (p:=⟨r,0,none⟩) hrl).trans hx0)
  have tb:(((0:Nat):Int)==0)=true:=rfl
  clear HL HF hxlt hxdz hq ht hst ht64 hs h0 h1 hcn
  go_enter Tryz.func173,Tryz.ntmps173
  go_wp2_with (first
   |(go_at_call 161;with_reducible refine HMk.out.mono ?_;rintro e w1 ⟨cc,rfl,hc1,hc2,hr1,hb1,hz1⟩;have HC1:=Lib.hid (And.intro hc1 hc2);have hca:(a:Int)≤(cc:Int):=(by omega);have hcq: ¬cc=q:=(by have:=HX.out;omega);have HR1:=Lib.hid hr1;have HB1:=Lib.hid hb1;have HZ1:=Lib.hid hz1;clear hr1 hb1 hz1 hc1 hc2;obtain⟨w2,hcp,hw2⟩:=copy_one w1 w.heap.size q (cc-q) r x _ (by rw[List.length_replicate];have:=HX.out;omega) HR1.out (HX0.out _ HB1.out);obtain⟨ca,fa,hr2,hb2,hz2⟩:=after_shift HR1.out HB1.out HZ1.out HX.out.1 HX.out.2 hw2;obtain⟨w3,hcl,hr3,hb3,hs3⟩:=clear_any _ w.heap.size q cc _ (by rw[HE.out.2.2];omega) HZ.out (HF0.out _ hr2);have HR3:=Lib.hid (And.intro hr3 (And.intro (hb3 _ _ (Nat.le_refl _) (hb2.setCell (p:=⟨w.heap.size,a,none⟩) (Nat.le_refl _) _)) (hs3.trans ((size_set _ _ _).trans hz2))));clear hr2 hb2 hw2 hr3 hb3 hs3 hz2)
   |(go_at_call 166;with_reducible refine(norm_own _ n _ _ _ (by rw[HE.out.2.2];have:=HX.out;omega) HC1.out.1 (by have:=HC1.out.2;omega) HR3.out.1 (by rw[HR3.out.2.2];exact Nat.lt_succ_self _) HE.out.2.1).mono ?_;rintro e w4 ⟨rfl,i,zs,rfl,y1,y2,y3,y4,y5,y6⟩;have Y:=Lib.hid (And.intro y1 (And.intro y2 (And.intro y3 (And.intro y4 (And.intro y5 y6)))));clear y1 y2 y3 y4 y5 y6))
  go_ret
  obtain⟨y1,y2,y3,y4,y5,y6⟩:=Y.out
  exact⟨_,zs,rfl,y1,y2,y3,y4.trans HE.out.1,by have:=HX.out;omega,HR3.out.2.1⟩
 ·have tb:((t:Int)==0)=false:=beq_eq_false_iff_ne.2 (by omega)
  have HLt:=Lib.hid (fun w1 cc hr1 hb1=>HL.out w1 cc hr1 hb1 (by omega))
  generalize x*2^t%18446744073709551616=m at HLt HF
  generalize x*2^t/18446744073709551616=k at HLt HF
  clear HL hxlt hxdz htz hq ht hst ht64 hs h0 h1
  go_enter Tryz.func173,Tryz.ntmps173
  go_wp2_with (first
   |(go_at_call 161;with_reducible refine HMk.out.mono ?_;rintro e w1 ⟨cc,rfl,hc1,hc2,hr1,hb1,hz1⟩;have HC1:=Lib.hid (And.intro hc1 hc2);have hca:(a:Int)≤(cc:Int):=(by omega);have hcq: ¬cc=q:=(by have:=HX.out;omega);have HR1:=Lib.hid hr1;have HB1:=Lib.hid hb1;have HZ1:=Lib.hid hz1;clear hr1 hb1 hz1 hc1 hc2)
   |(go_at_call 196;with_reducible refine(HLt.out _ cc HR1.out HB1.out).mono ?_;rintro e w2 ⟨rfl,hw2⟩;obtain⟨ca,fa,hr2,hb2,hz2⟩:=after_shift HR1.out HB1.out HZ1.out HX.out.1 HX.out.2 hw2;obtain⟨w3,hcl,hr3,hb3,hs3⟩:=clear_any _ w.heap.size q cc _ (by rw[HE.out.2.2];omega) HZ.out (HF.out _ hr2);have HR3:=Lib.hid (And.intro hr3 (And.intro (hb3 _ _ (Nat.le_refl _) (hb2.setCell (p:=⟨w.heap.size,a,none⟩) (Nat.le_refl _) _)) (hs3.trans ((size_set _ _ _).trans hz2))));clear hr2 hb2 hw2 hr3 hb3 hs3 hz2)
   |(go_at_call 166;with_reducible refine(norm_own _ n _ _ _ (by rw[HE.out.2.2];have:=HX.out;omega) HC1.out.1 (by have:=HC1.out.2;omega) HR3.out.1 (by rw[HR3.out.2.2];exact Nat.lt_succ_self _) HE.out.2.1).mono ?_;rintro e w4 ⟨rfl,i,zs,rfl,y1,y2,y3,y4,y5,y6⟩;have Y:=Lib.hid (And.intro y1 (And.intro y2 (And.intro y3 (And.intro y4 (And.intro y5 y6)))));clear y1 y2 y3 y4 y5 y6))
  go_ret
  obtain⟨y1,y2,y3,y4,y5,y6⟩:=Y.out
  exact⟨_,zs,rfl,y1,y2,y3,y4.trans HE.out.1,by have:=HX.out;omega,HR3.out.2.1⟩
def Shifted (w:World) (g o:Nat) (b:Bool) (x:Int) (s:Nat) (e:Ending) (w':World):Prop:=
 e= .returned (.pointer (some ⟨g,o,none⟩))∧ ∃W u zs,w'=(W.setCell ⟨g,o+1,none⟩ u).setCell ⟨g,o,none⟩ (.bool b)∧Sl .u64 w.heap.size W u zs∧Words zs∧Top zs∧leN zs=x*2^s∧zs.length≤s/64+2∧Below w.heap.size w W
set_option maxRecDepth 100000 in
theorem intLsh_c (g o r:Nat) (b:Bool) (x:Int) (s:Nat) (w:World) (hr:IRow .u64 w r [x]) (h0:0<x) (h1:x<18446744073709551616) (hs:0<s) (hs2:s≤5000) (hrl:r<w.heap.size)
 (c0:w.cell? ⟨g,o,none⟩=some (.bool b)) (c1:w.cell? ⟨g,o+1,none⟩=some (.slice (some ⟨r,0,none⟩) 1 1)) (f0:w.frozen? ⟨g,o,none⟩=false) (f1:w.frozen? ⟨g,o+1,none⟩=false):
 Calls Tryz.prog 140 #[.pointer (some ⟨g,o,none⟩), .pointer (some ⟨g,o,none⟩), .int .u64 s] w (Shifted w g o b x s):=by
 have HC:=Lib.hid (fun w' (hb:Below w.heap.size w w')=>lsh1_c r x s w' (hr.below hb hrl) h0 h1 hs hs2 (Nat.lt_of_lt_of_le hrl hb.size))
 have hlt:=lt_of_cell c0
 have HB0:Hid (Below w.heap.size w w.drew):=(Below.refl _ _).drew
 clear hr h0 h1 hs
 go_enter Tryz.func140,Tryz.ntmps140
 go_wp2
 go_region_with (go_at_call 173;refine(HC.out _ HB0.out).mono ?_;rintro e w1 ⟨u,zs,rfl,g1,g2,g3,g4,g5,g6⟩;obtain⟨A1,k1,rfl,_⟩:=g1.c;have hb1:=HB0.out.trans g6;have HG:=Lib.hid (And.intro g1 (And.intro g2 (And.intro g3 (And.intro g4 (And.intro g5 hb1)))));have q0:=(hb1.cell (p:=⟨g,o,none⟩) hlt).trans c0;have q1:=(hb1.cell (p:=⟨g,o+1,none⟩) hlt).trans c1;have r0:=(hb1.frozen (p:=⟨g,o,none⟩) hlt).trans f0;have r1:=(hb1.frozen (p:=⟨g,o+1,none⟩) hlt).trans f1;clear g1 g2 g3 g4 g5 g6 hb1)
 all_goals go_wp2
 all_goals go_ret
 all_goals exact⟨rfl,w1,_,zs,rfl,HG.out⟩
set_option maxRecDepth 100000 in
theorem intLsh0_c (g o r:Nat) (b:Bool) (x:Int) (w:World) (hr:IRow .u64 w r [x]) (h0:0<x) (h1:x<18446744073709551616) (hrl:r<w.heap.size) (hgr:g≠r)
 (c0:w.cell? ⟨g,o,none⟩=some (.bool b)) (c1:w.cell? ⟨g,o+1,none⟩=some (.slice (some ⟨r,0,none⟩) 1 1)) (f0:w.frozen? ⟨g,o,none⟩=false) (f1:w.frozen? ⟨g,o+1,none⟩=false):
 Calls Tryz.prog 140 #[.pointer (some ⟨g,o,none⟩), .pointer (some ⟨g,o,none⟩), .int .u64 0] w fun e w'=>e= .returned (.pointer (some ⟨g,o,none⟩))∧ ∃n,w'=(((w.drewN n).setCell ⟨g,o+1,none⟩ (.slice (some ⟨r,0,none⟩) 1 1)).setCell ⟨g,o,none⟩ (.bool b)):=by
 have HC:=Lib.hid (fun w'=>lsh0_c r w')
 clear hr h0 h1
 go_enter Tryz.func140,Tryz.ntmps140
 go_wp2
 go_region_with (go_at_call 173;refine(HC.out _).mono ?_;rintro e w1 ⟨rfl,k,rfl⟩)
 all_goals go_wp2
 all_goals go_ret
 all_goals exact⟨rfl,_,rfl⟩
structure RT (w:World) (g:Nat) (na:Bool) (va:Value) (xs:List Int) (vb:Value) (ys:List Int):Prop where
 blk:w.heap[g]?=some (.cells #[.bool na,va, .bool false,vb] 198 (0,0))
 sa:Sl .u64 (g+1) w va xs
 sb:Sl .u64 (g+1) w vb ys
 wa:Words xs
 ta:Top xs
 wb:Words ys
 tb:Top ys
section
variable {w w':World} {g:Nat} {na:Bool} {va vb:Value} {xs ys:List Int}
theorem RT.below (h:RT w g na va xs vb ys) (hb:Below w.heap.size w w'):RT w' g na va xs vb ys:=
 ⟨blk_below h.blk hb,h.sa.below hb,h.sb.below hb,h.wa,h.ta,h.wb,h.tb⟩
theorem RT.drewN (h:RT w g na va xs vb ys) (n:Nat):RT (w.drewN n) g na va xs vb ys:=⟨h.blk,h.sa,h.sb,h.wa,h.ta,h.wb,h.tb⟩
theorem RT.pa (h:RT w g na va xs vb ys):PI w g 0 na va xs:=⟨⟨_,_,h.blk,rfl,rfl⟩,h.sa.mono (Nat.zero_le _),h.wa,h.ta⟩
theorem RT.pb (h:RT w g na va xs vb ys):PI w g 2 false vb ys:=⟨⟨_,_,h.blk,rfl,rfl⟩,h.sb.mono (Nat.zero_le _),h.wb,h.tb⟩
theorem RT.put0 (h:RT w g na va xs vb ys) (b:Bool):RT (w.setCell ⟨g,0,none⟩ (.bool b)) g b va xs vb ys:=
 ⟨blk_put h.blk 0 _ rfl,h.sa.setCell (p:=⟨g,0,none⟩) _ (by show g<g+1;omega),h.sb.setCell (p:=⟨g,0,none⟩) _ (by show g<g+1;omega),h.wa,h.ta,h.wb,h.tb⟩
theorem RT.put2 (h:RT w g na va xs vb ys):RT (w.setCell ⟨g,2,none⟩ (.bool false)) g na va xs vb ys:=
 ⟨blk_put h.blk 2 _ rfl,h.sa.setCell (p:=⟨g,2,none⟩) _ (by show g<g+1;omega),h.sb.setCell (p:=⟨g,2,none⟩) _ (by show g<g+1;omega),h.wa,h.ta,h.wb,h.tb⟩
end
set_option maxRecDepth 100000 in
theorem getStack_c (w:World):Calls Tryz.prog 101 #[] w fun e w'=>e= .returned (.pointer (some ⟨w.heap.size,0,none⟩))∧w'.cell? ⟨w.heap.size,0,none⟩=some (.pointer none)∧Below w.heap.size w w'∧w.heap.size<w'.heap.size:=by
 go_enter Tryz.func101,Tryz.ntmps101
 go_wp2
 go_ret
 exact⟨rfl,blk_cell (blk_new _ _) 0 _ rfl,(Below.refl _ _).alloc (Nat.le_refl _) _,by simp⟩
set_option maxRecDepth 100000 in
theorem free_deferred (a:Nat) (u:FrameMode) (w:World) (h:w.cell? ⟨a,0,none⟩=some (.pointer none)):CallsD Tryz.prog 102 #[.pointer (some ⟨a,0,none⟩)] u w fun e u' w'=>u'=u∧(e= .returned (.tuple #[])∧w'=w):=by
 go_enter_d Tryz.func102,Tryz.ntmps102
 go_wp2
 go_end0
 exact⟨rfl,rfl⟩
theorem ptr_eqlP (w:World) (a b:Addr) (h:a≠b) {ca cb:Array Value} {ta tb:TypeId} (ha:w.heap[a.block]?=some (.cells ca ta (0,0))) (hb:w.heap[b.block]?=some (.cells cb tb (0,0))):(binOp .eql 118 (.pointer (some a)) (.pointer (some b))).run Tryz.prog w= .ok (.bool false) w:=by
 obtain⟨i,hi,hs⟩:=Option.map_eq_some_iff.1 intInfo
 exact run_eql_ptr_other w Tryz.underlying118 hi (by rw[hs];decide) h ha hb
theorem quiet_add {P:Program} {f:FuncId} {args:Array Value} {w:World} {a n:Nat} {v:Value}
 (h:Calls P f args (w.drewN (a+n)) fun e w'=>e= .returned v∧ ∃m,w'=(w.drewN (a+n)).drewN m):
 Calls P f args (w.drewN (a+n)) fun e w''=>e= .returned v∧ ∃m,w''=w.drewN (a+m):=
 h.mono fun _ _ ⟨he,m,hm⟩=>⟨he,n+m,by rw[hm,drewN_two,Nat.add_assoc]⟩
theorem bval_false (zs:List Int):bval false zs=leN zs:=rfl
theorem bval_true (zs:List Int):bval true zs= -leN zs:=rfl
theorem sgn_wrap (x:Int):wrap64 (-sgn x)= -sgn x:=by
 have:=sgn_vals x
 unfold wrap64
 omega
set_option maxRecDepth 100000 in
set_option maxHeartbeats 1000000 in
theorem intCmp_c (g1 o1 g2 o2:Nat) (n1 n2:Bool) (v1 v2:Value) (zs ws:List Int) (w:World) (h1:PI w g1 o1 n1 v1 zs) (h2:PI w g2 o2 n2 v2 ws) (hne:g1≠g2) (hl1:zs.length≤1000000) (hl2:ws.length≤1000000) (z1:zs=[]→n1=false) (z2:ws=[]→n2=false):
    Calls Tryz.prog 104 #[.pointer (some ⟨g1,o1,none⟩), .pointer (some ⟨g2,o2,none⟩)] w fun e w'=>e= .returned (.int .i64 (sgn (bval n1 zs-bval n2 ws)))∧ ∃n,w'=w.drewN n:=by
  obtain⟨A1,k1,rfl,_⟩:=h1.sl.c
  obtain⟨A2,k2,rfl,_⟩:=h2.sl.c
  obtain⟨ca,ta,ha,_⟩:=h1.blk
  obtain⟨cb,tb,hb,_⟩:=h2.blk
  have hpe:=ptr_eqlP w ⟨g1,o1,none⟩ ⟨g2,o2,none⟩ (by intro e;injection e with e;exact hne e) ha hb
  have a0:=h1.c0
  have a1:=h1.c1
  have b0:=h2.c0
  have b1:=h2.c1
  have HC:=Lib.hid (fun n=>natCmp_c _ _ _ _ zs ws (w.drewN n) (h1.sl.below (pw_below_drewN (Below.refl _ _) n)) (h2.sl.below (pw_below_drewN (Below.refl _ _) n)) h1.words h2.words h1.top h2.top (by omega) (by omega))
  have hz:=(leN_bd zs h1.words).1
  have hw:=(leN_bd ws h2.words).1
  have hzp:zs≠[]→0<leN zs:=fun h=>by
    have:=leN_top zs h1.words h1.top h
    have:=wpos (zs.length-1)
    omega
  have hwp:ws≠[]→0<leN ws:=fun h=>by
    have:=leN_top ws h2.words h2.top h
    have:=wpos (ws.length-1)
    omega
  clear ha hb h1 h2
  cases n1
  · cases n2
    · rw[bval_false,bval_false]
      generalize sgn (leN zs-leN ws)=s at HC⊢
      clear hzp hwp hz hw z1 z2
      go_enter Tryz.func104,Tryz.ntmps104
      go_wp2_with fail
      go_quiet (fail)
      go_wp2_with fail
      go_quiet ((go_at_call 137;exact quiet_add (HC.out _)))
      go_wp2
      go_ret
      exact⟨rfl,_,rfl⟩
    · have hs:Hid (sgn (bval false zs-bval true ws)=1):=by
        refine Lib.hid ?_
        rw[bval_false,bval_true]
        have:ws≠[]:=fun e=>by have:=z2 e;cases this
        have:=hwp this
        exact sgn_of_pos (by omega)
      clear hzp hwp hz hw z1 z2 HC
      rw[hs.out]
      go_enter Tryz.func104,Tryz.ntmps104
      go_wp2
      go_quiet (fail)
      go_wp2
      go_ret
      exact⟨rfl,_,rfl⟩
  · have hzs:zs≠[]:=fun e=>by have:=z1 e;cases this
    have hzp:=hzp hzs
    cases n2
    · have hs:Hid (sgn (bval true zs-bval false ws)= -1):=by
        refine Lib.hid ?_
        rw[bval_false,bval_true]
        exact sgn_of_neg (by omega)
      clear hzp hwp hz hw z1 z2 HC
      rw[hs.out]
      go_enter Tryz.func104,Tryz.ntmps104
      go_wp2
      go_quiet (fail)
      go_wp2
      go_ret
      exact⟨rfl,_,rfl⟩
    · have hs:Hid (sgn (bval true zs-bval true ws)=wrap64 (-sgn (leN zs-leN ws))):=by
        refine Lib.hid ?_
        rw[sgn_wrap,bval_true,bval_true,←sgn_neg]
        congr 1;omega
      rw[hs.out]
      generalize sgn (leN zs-leN ws)=s at HC⊢
      clear hzp hwp hz hw z1 z2 hs
      go_enter Tryz.func104,Tryz.ntmps104
      go_wp2_with fail
      go_quiet (fail)
      go_wp2_with fail
      go_quiet ((go_at_call 137;exact quiet_add (HC.out _)))
      go_wp2
      go_ret
      exact⟨rfl,_,rfl⟩
set_option maxRecDepth 100000 in
theorem newInt0_c (w:World):Calls Tryz.prog 144 #[.int .i64 0] w fun e w'=>e= .returned (.pointer (some ⟨w.heap.size,0,none⟩))∧w'=w.alloc (.cells #[.bool false, .slice none 0 0] 196):=by
 go_enter Tryz.func144,Tryz.ntmps144
 go_wp2
 go_ret
 exact⟨rfl,rfl⟩
structure NQ (xs ys:List Int):Prop where
 bez:Bez (leN xs) (leN ys)
 nx:xs≠[]
 ny:ys≠[]
 lx:xs.length≤1000
 ly:ys.length≤1000
 one:(xs.length=1∧(ys.length=1∨leN xs<9223372036854775808))∨(ys.length=1∧(xs.length=1∨leN ys<9223372036854775808))
set_option maxRecDepth 100000 in
set_option maxHeartbeats 4000000 in
theorem norm_c (g:Nat) (na:Bool) (va vb:Value) (xs ys:List Int) (w:World) (h:RT w g na va xs vb ys) (hq:NQ xs ys):
 Calls Tryz.prog 141 #[.pointer (some ⟨g,0,none⟩)] w fun e w'=>e= .returned (.pointer (some ⟨g,0,none⟩))∧RT w' g na va xs vb ys∧Below g w w':=by
 have e1:((xs.length:Int)==0)=false:=beq_eq_false_iff_ne.2 (by have:=List.length_pos_iff.2 hq.nx;omega)
 have e2:((ys.length:Int)==0)=false:=beq_eq_false_iff_ne.2 (by have:=List.length_pos_iff.2 hq.ny;omega)
 obtain⟨A1,k1,rfl,_⟩:=h.sa.c
 obtain⟨A2,k2,rfl,_⟩:=h.sb.c
 have HQ:=Lib.hid hq
 have H:=Lib.hid h
 have hg:g<w.heap.size:=lt_of_cell h.pa.c0
 have c0:=blk_cell h.blk 0 _ rfl
 have c1:=blk_cell h.blk 1 _ rfl
 have c2:=blk_cell h.blk 2 _ rfl
 have c3:=blk_cell h.blk 3 _ rfl
 clear h hq
 go_enter_defers Tryz.func141,Tryz.ntmps141
 go_wp2_with (go_at_call 101;(with_reducible refine(getStack_c _).mono ?_);rintro e w1 ⟨rfl,hs1,hb1,hl1⟩;have HS:=Lib.hid hs1;have HB1:=Lib.hid hb1;have HL1:=Lib.hid hl1;replace H:=Lib.hid (H.out.below hb1);clear c0 c1 c2 c3 hs1 hb1 hl1;have c0:w1.cell? ⟨g,0,none⟩=some (.bool na):=blk_cell H.out.blk 0 _ rfl;have c1:=blk_cell H.out.blk 1 _ rfl;have c2:w1.cell? ⟨g,2,none⟩=some (.bool false):=blk_cell H.out.blk 2 _ rfl;have f0:=blk_free H.out.blk 0;have f2:=blk_free H.out.blk 2)
 have H2:=Lib.hid ((H.out.put0 false).put2)
 have HB2:Hid (Below g w ((w1.setCell ⟨g,0,none⟩ (.bool false)).setCell ⟨g,2,none⟩ (.bool false))):=Lib.hid (((HB1.out.mono (Nat.le_of_lt hg)).setCell (Nat.le_refl _) _).setCell (Nat.le_refl _) _)
 have hsc:((w1.setCell ⟨g,0,none⟩ (.bool false)).setCell ⟨g,2,none⟩ (.bool false)).cell? ⟨w.heap.size,0,none⟩=some (.pointer none):=by
  rw[cell_setCell_ne _ _ _ _ (Or.inl (by show g≠w.heap.size;omega)),cell_setCell_ne _ _ _ _ (Or.inl (by show g≠w.heap.size;omega))]
  exact HS.out
 have HSC:=Lib.hid hsc
 clear hsc c0 c1 c2 f0 f2 HS HL1 HB1 H
 generalize (w1.setCell ⟨g,0,none⟩ (.bool false)).setCell ⟨g,2,none⟩ (.bool false)=W at H2 HB2 HSC⊢
 have hgW:g<W.heap.size:=Nat.lt_of_lt_of_le hg HB2.out.size
 have HG:=Lib.hid (fun W' (hb:Below W.heap.size W W') hk=>gcd_c W.heap.size g _ _ xs ys W' (H2.out.below hb).pa (H2.out.below hb).pb hk hgW HQ.out.bez HQ.out.nx HQ.out.ny (by have:=HQ.out.lx;omega) (by have:=HQ.out.ly;omega) HQ.out.one)
 go_region_held3 (fun _=>True) (trivial) (first|(go_at_call 144;(refine(newInt0_c _).mono ?_);rintro e w2 ⟨rfl,hw2⟩;have HW2:Hid (Below W.heap.size W w2∧w2.heap[W.heap.size]?=some (.cells #[.bool false, .slice none 0 0] 196 (0,0))):=(by subst hw2;exact⟨(Below.refl _ _).drew.alloc (Nat.le_refl _) _,blk_new _ _⟩);clear hw2)|(go_at_call 174;(refine(HG.out _ HW2.out.1 HW2.out.2).mono ?_);rintro e w3 ⟨rfl,⟨u,hu⟩,hb3⟩;have HU:=Lib.hid hu;have HB3:=Lib.hid (HW2.out.1.trans hb3);clear hu hb3))
 have hb3:=HB3.out
 have HR3:=Lib.hid (H2.out.below hb3)
 have hsc3:w3.cell? ⟨w.heap.size,0,none⟩=some (.pointer none):=(hb3.cell (p:=⟨w.heap.size,0,none⟩) (lt_of_cell HSC.out)).trans HSC.out
 have HSC3:=Lib.hid hsc3
 have HB33:=Lib.hid (HB2.out.trans (hb3.mono (Nat.le_of_lt hgW)))
 clear hsc3 hb3 HSC H2 HB2 HG HB3 HW2
 go_wp2_with (first
  |(go_at_call 139;(with_reducible refine(intOne_c _).mono ?_);rintro e w4 ⟨gx,u2,rfl,hgx,hp,hb4⟩;have HP:=Lib.hid (And.intro hgx (And.intro hp hb4));clear hgx hp hb4)
  |(go_at_call 104;(with_reducible refine(intCmp_c W.heap.size 0 gx 0 false false _ _ [1] [1] _ (HU.out.pi.below HP.out.2.2) HP.out.2.1 (by have:=HP.out.1;have:=HU.out.lt;omega) (by simp) (by simp) (fun h=>by cases h) (fun h=>by cases h)).mono ?_);rintro e w5 ⟨rfl,n5,rfl⟩;rw[show sgn (bval false [1]-bval false [1])=0 from by rw[Int.sub_self];rfl];have HR5:=Lib.hid ((HR3.out.below HP.out.2.2).drewN n5);have HB5:=Lib.hid (pw_below_drewN (HB33.out.trans (HP.out.2.2.mono (by have:=HB33.out.size;have:=lt_of_cell HR3.out.pa.c0;omega))) n5);have hs5:=(HP.out.2.2.cell (p:=⟨w.heap.size,0,none⟩) (lt_of_cell HSC3.out)).trans HSC3.out;have HS5:=Lib.hid hs5;have c0:=blk_cell HR5.out.blk 0 _ rfl;have f0:=blk_free HR5.out.blk 0;clear hs5))
 refine leaves_cons (f:=102) (args:=#[.pointer (some ⟨w.heap.size,0,none⟩)]) (by simp) (by simp[go_sem]) ?_
 refine(free_deferred w.heap.size .returning _ ?_).mono ?_
 ·rw[cell_setCell_ne _ _ _ _ (Or.inl (by show g≠w.heap.size;omega))]
  exact HS5.out
 rintro e u' w'' ⟨rfl,rfl,rfl⟩
 exact⟨_,results_tmp rfl _ _ _,rfl,HR5.out.put0 na,HB5.out.setCell (Nat.le_refl _) _⟩
def RatF (w:World) (g:Nat) (s:Bool) (m:Nat) (p:Int) (e:Ending) (w':World):Prop:=
 e= .returned (.pointer (some ⟨g,0,none⟩))∧(∃na va xs vb ys,RT w' g na va xs vb ys∧(xs=[]→na=false)∧bval na xs*2^(-p).toNat=smag s m*2^p.toNat*leN ys∧0<leN ys∧xs.length≤39∧ys.length≤39∧ys≠[]∧(0≤p→ys=[1]))∧Below g w w'
structure RS (w0:World) (g ra:Nat) (na:Bool) (x:Int) (vb:Value) (w:World):Prop where
 blk:w.heap[g]?=some (.cells #[.bool na, .slice (some ⟨ra,0,none⟩) 1 1, .bool false,vb] 198 (0,0))
 row:IRow .u64 w ra [x]
 gr:g<ra
 rl:ra<w.heap.size
 low:Below g w0 w
theorem RS.below {w0 w w':World} {g ra:Nat} {na:Bool} {x:Int} {vb:Value} (h:RS w0 g ra na x vb w) (hb:Below w.heap.size w w'):RS w0 g ra na x vb w':=
 ⟨blk_below h.blk hb,h.row.below hb h.rl,h.gr,Nat.lt_of_lt_of_le h.rl hb.size,h.low.trans (hb.mono (Nat.le_of_lt (Nat.lt_trans h.gr h.rl)))⟩
theorem RS.drew {w0 w:World} {g ra:Nat} {na:Bool} {x:Int} {vb:Value} (h:RS w0 g ra na x vb w):RS w0 g ra na x vb w.drew:=h.below ((Below.refl _ _).drew)
theorem RS.neg {w0 w:World} {g ra:Nat} {na:Bool} {x:Int} {vb:Value} (h:RS w0 g ra na x vb w) (b:Bool):RS w0 g ra b x vb (w.setCell ⟨g,0,none⟩ (.bool b)):=
 ⟨blk_put h.blk 0 _ rfl,h.row.setOther _ _ (Nat.ne_of_lt h.gr),h.gr,by simpa [World.setCell] using h.rl,h.low.setCell (Nat.le_refl _) _⟩
theorem rs_wrote {w w':World} {g:Nat} {x:Int} {e:Ending} (hk:w.heap[g]?=some (.cells #[.bool false, .slice none 0 0, .bool false, .slice none 0 0] 198 (0,0))) (h:Wrote w g 0 x false e w'):RS w g w.heap.size false x (.slice none 0 0) w':=by
 obtain⟨_,W,rfl,hr,hb,hz⟩:=h
 have hg:=blk_lt hk
 exact⟨blk_put (blk_put ((hb.block g hg).trans hk) 1 _ rfl) 0 _ rfl,(hr.setOther _ _ (Nat.ne_of_lt hg)).setOther _ _ (Nat.ne_of_lt hg),hg,by simpa [World.setCell] using hz,((hb.mono (Nat.le_of_lt hg)).setCell (Nat.le_refl _) _).setCell (Nat.le_refl _) _⟩
structure RS2 (w0:World) (g ra rb:Nat) (na:Bool) (x:Int) (w:World):Prop where
 a:RS w0 g ra na x (.slice (some ⟨rb,0,none⟩) 1 1) w
 row:IRow .u64 w rb [1]
 gr:g<rb
 rl:rb<w.heap.size
theorem rs2_wrote {w0 w w':World} {g ra:Nat} {na:Bool} {x:Int} {e:Ending} (h0:RS w0 g ra na x (.slice none 0 0) w) (h:Wrote w g 2 1 false e w'):RS2 w0 g ra w.heap.size na x w':=by
 obtain⟨_,W,rfl,hr,hb,hz⟩:=h
 have hg:=blk_lt h0.blk
 have h1:=h0.below hb
 exact⟨⟨blk_put (blk_put h1.blk 3 _ rfl) 2 _ rfl,(h1.row.setOther _ _ (Nat.ne_of_lt h1.gr)).setOther _ _ (Nat.ne_of_lt h1.gr),h1.gr,by simpa [World.setCell] using h1.rl,(h1.low.setCell (Nat.le_refl _) _).setCell (Nat.le_refl _) _⟩,(hr.setOther _ _ (Nat.ne_of_lt hg)).setOther _ _ (Nat.ne_of_lt hg),hg,by simpa [World.setCell] using hz⟩
theorem RS2.drew {w0 w:World} {g ra rb:Nat} {na:Bool} {x:Int} (h:RS2 w0 g ra rb na x w):RS2 w0 g ra rb na x w.drew:=⟨h.a.drew,h.row,h.gr,h.rl⟩
theorem words_one {x:Int} (h0:0<x) (h1:x<18446744073709551616):Words [x]∧Top [x]:=⟨fun z hz=>by rw[List.mem_singleton] at hz;omega,fun _=>by simp;omega⟩
theorem irow_sl1 {w:World} {r:Nat} {x:Int} (h:IRow .u64 w r [x]) (hl:r<w.heap.size):Sl .u64 r w (.slice (some ⟨r,0,none⟩) 1 1) [x]:=by
 have:=h.sl' hl (c:=1) (by simp) (by simp)
 simpa using this
theorem rt_shift_b {w0 w w':World} {g ra rb:Nat} {na:Bool} {x:Int} {s:Nat} {e:Ending} (h:RS2 w0 g ra rb na x w) (h0:0<x) (h1:x<18446744073709551616) (hs:Shifted w g 2 false 1 s e w'):
 ∃u zs,RT w' g na (.slice (some ⟨ra,0,none⟩) 1 1) [x] u zs∧leN zs=1*2^s∧zs.length≤s/64+2∧Below g w0 w':=by
 obtain⟨_,W,u,zs,rfl,g1,g2,g3,g4,g5,g6⟩:=hs
 have h2:=h.a.below g6
 obtain⟨wx,tx⟩:=words_one h0 h1
 refine⟨u,zs,⟨blk_put (blk_put h2.blk 3 _ rfl) 2 _ rfl,?_,?_,wx,tx,g2,g3⟩,g4,g5,(h2.low.setCell (Nat.le_refl _) _).setCell (Nat.le_refl _) _⟩
 ·exact(((irow_sl1 h2.row h2.rl).mono h2.gr).setCell (p:=⟨g,3,none⟩) _ (by show g<g+1;omega)).setCell (p:=⟨g,2,none⟩) _ (by show g<g+1;omega)
 ·have hg:g+1≤w.heap.size:=by have:=h.a.gr;have:=h.a.rl;omega
  exact((g1.mono hg).setCell (p:=⟨g,3,none⟩) _ (by show g<g+1;omega)).setCell (p:=⟨g,2,none⟩) _ (by show g<g+1;omega)
theorem rt_shift_a {w0 w w':World} {g ra rb:Nat} {na:Bool} {x:Int} {s:Nat} {e:Ending} (h:RS2 w0 g ra rb na x w) (hs:Shifted w g 0 na x s e w'):
 ∃u zs,RT w' g na u zs (.slice (some ⟨rb,0,none⟩) 1 1) [1]∧leN zs=x*2^s∧zs.length≤s/64+2∧Below g w0 w':=by
 obtain⟨_,W,u,zs,rfl,g1,g2,g3,g4,g5,g6⟩:=hs
 have h2:=h.a.below g6
 have hr:=h.row.below g6 h.rl
 obtain⟨wx,tx⟩:=words_one (x:=1) (by omega) (by omega)
 refine⟨u,zs,⟨blk_put (blk_put h2.blk 1 _ rfl) 0 _ rfl,?_,?_,g2,g3,wx,tx⟩,g4,g5,(h2.low.setCell (Nat.le_refl _) _).setCell (Nat.le_refl _) _⟩
 ·have hg:g+1≤w.heap.size:=by have:=h.a.gr;have:=h.a.rl;omega
  exact((g1.mono hg).setCell (p:=⟨g,1,none⟩) _ (by show g<g+1;omega)).setCell (p:=⟨g,0,none⟩) _ (by show g<g+1;omega)
 ·exact(((irow_sl1 hr (Nat.lt_of_lt_of_le h.rl g6.size)).mono h.gr).setCell (p:=⟨g,1,none⟩) _ (by show g<g+1;omega)).setCell (p:=⟨g,0,none⟩) _ (by show g<g+1;omega)
theorem rt_same {w0 w:World} {g ra rb:Nat} {na:Bool} {x:Int} (h:RS2 w0 g ra rb na x w) (h0:0<x) (h1:x<18446744073709551616) (n:Nat):
 RT (((w.drewN n).setCell ⟨g,1,none⟩ (.slice (some ⟨ra,0,none⟩) 1 1)).setCell ⟨g,0,none⟩ (.bool na)) g na (.slice (some ⟨ra,0,none⟩) 1 1) [x] (.slice (some ⟨rb,0,none⟩) 1 1) [1]∧Below g w0 (((w.drewN n).setCell ⟨g,1,none⟩ (.slice (some ⟨ra,0,none⟩) 1 1)).setCell ⟨g,0,none⟩ (.bool na)):=by
 have hb:Below w.heap.size w (w.drewN n):=pw_below_drewN (Below.refl _ _) n
 have h2:=h.a.below hb
 have hr:=h.row.below hb h.rl
 obtain⟨wx,tx⟩:=words_one h0 h1
 obtain⟨w1,t1⟩:=words_one (x:=1) (by omega) (by omega)
 refine⟨⟨blk_put (blk_put h2.blk 1 _ rfl) 0 _ rfl,?_,?_,wx,tx,w1,t1⟩,(h2.low.setCell (Nat.le_refl _) _).setCell (Nat.le_refl _) _⟩
 ·exact(((irow_sl1 h2.row h2.rl).mono h2.gr).setCell (p:=⟨g,1,none⟩) _ (by show g<g+1;omega)).setCell (p:=⟨g,0,none⟩) _ (by show g<g+1;omega)
 ·exact(((irow_sl1 hr (Nat.lt_of_lt_of_le h.rl hb.size)).mono h.gr).setCell (p:=⟨g,1,none⟩) _ (by show g<g+1;omega)).setCell (p:=⟨g,0,none⟩) _ (by show g<g+1;omega)
theorem rat_end (s:Bool) (m:Nat) (p m1 s1:Int) (xs ys:List Int) (hv:Hv m (-p) m1 s1) (ha:leN xs=ratA m1 s1) (hb:leN ys=ratB s1):bval s xs*2^(-p).toNat=smag s m*2^p.toNat*leN ys:=by
 have h:=hv_rat hv rfl
 rw[←ha,←hb] at h
 unfold bval smag
 cases s
 ·exact h
 ·simp only[if_true,Int.neg_mul];rw[h]
def Norm (w0:World) (g o:Nat) (s:Bool) (m:Nat) (p:Int) (e:Ending) (w':World):Prop:=
 e= .returned (.pointer (some ⟨g,o,none⟩))∧ ∃va xs vb ys,RT w' g s va xs vb ys∧NQ xs ys∧xs.length≤39∧ys.length≤39∧bval s xs*2^(-p).toNat=smag s m*2^p.toNat*leN ys∧0<leN ys∧Below g w0 w'∧(0≤p→ys=[1])
theorem norm_end {w0 w:World} {g o:Nat} {s:Bool} {m:Nat} {p:Int} {e:Ending} (h:Norm w0 g o s m p e w):e= .returned (.pointer (some ⟨g,o,none⟩))∧Calls Tryz.prog 141 #[.pointer (some ⟨g,0,none⟩)] w (RatF w0 g s m p):=by
 obtain⟨he,va,xs,vb,ys,h1,h2,h3,h4,h5,h6,h7,h8⟩:=h
 refine⟨he,(norm_c g s va vb xs ys w h1 h2).mono ?_⟩
 rintro e w' ⟨rfl,hr,hb⟩
 exact⟨rfl,⟨s,va,xs,vb,ys,hr,fun h=>absurd h h2.nx,h5,h6,h3,h4,h2.ny,h8⟩,h7.trans hb⟩
theorem ne_nil_of_pos {l:List Int} (h:0<leN l):l≠[]:=fun e=>by rw[e] at h;simp[leN] at h
theorem norm_b {w0 w w':World} {g ra rb:Nat} {s:Bool} {m:Nat} {p m1:Int} {k:Nat} {e:Ending} (h:RS2 w0 g ra rb s m1 w) (h0:0<m1) (h1:m1<9007199254740992) (hk0:0<(k:Int)) (hk:k≤1074) (hodd:m1%2=1) (hv:Hv m (-p) m1 k) (hs:Shifted w g 2 false 1 k e w'):Norm w0 g 2 s m p e w':=by
 obtain⟨u,zs,r1,r2,r3,r4⟩:=rt_shift_b h h0 (by omega) hs
 rw[Int.one_mul] at r2
 have hp:=two_pos k
 have hb:leN zs=ratB k:=by unfold ratB;rw[Int.toNat_natCast];exact r2
 have ha:leN [m1]=ratA m1 k:=by unfold ratA;rw[leN_one,show(-(k:Int)).toNat=0 from by omega];simp
 refine⟨hs.1,_,[m1],u,zs,r1,⟨?_,by simp,ne_nil_of_pos (by omega),by simp,by omega,Or.inl ⟨rfl,Or.inr (by rw[leN_one];omega)⟩⟩,by simp,by omega,rat_end s m p m1 k [m1] zs hv ha hb,by omega,r4,fun hp0=>by obtain⟨j,_,hj⟩:=hv.ex;omega⟩
 rw[ha,hb];exact hv_bez hv (Or.inr hodd)
theorem norm_a {w0 w w':World} {g ra rb:Nat} {s:Bool} {m:Nat} {p m1:Int} {k:Nat} {e:Ending} (h:RS2 w0 g ra rb s m1 w) (h0:0<m1) (hk:k≤1074) (hv:Hv m (-p) m1 (-(k:Int))) (hs:Shifted w g 0 s m1 k e w'):Norm w0 g 0 s m p e w':=by
 obtain⟨u,zs,r1,r2,r3,r4⟩:=rt_shift_a h hs
 have hp:=two_pos k
 have hpos:0<m1*2^k:=Int.mul_pos h0 hp
 have ha:leN zs=ratA m1 (-(k:Int)):=by unfold ratA;rw[Int.neg_neg,Int.toNat_natCast];exact r2
 have hb:leN [1]=ratB (-(k:Int)):=by unfold ratB;rw[leN_one,show(-(k:Int)).toNat=0 from by omega];simp
 refine⟨hs.1,u,zs,_,[1],r1,⟨?_,ne_nil_of_pos (by omega),by simp,by omega,by simp,Or.inr ⟨rfl,Or.inr (by rw[leN_one];omega)⟩⟩,by omega,by simp,rat_end s m p m1 _ zs [1] hv ha hb,by rw[leN_one];omega,r4,fun _=>rfl⟩
 rw[leN_one];exact bez_one _
theorem norm_0 {w0 w:World} {g ra rb:Nat} {s:Bool} {m:Nat} {p m1:Int} (h:RS2 w0 g ra rb s m1 w) (h0:0<m1) (h1:m1<9007199254740992) (hv:Hv m (-p) m1 0) (n:Nat):Norm w0 g 0 s m p (.returned (.pointer (some ⟨g,0,none⟩))) (((w.drewN n).setCell ⟨g,1,none⟩ (.slice (some ⟨ra,0,none⟩) 1 1)).setCell ⟨g,0,none⟩ (.bool s)):=by
 obtain⟨r1,r4⟩:=rt_same h h0 (by omega) n
 have ha:leN [m1]=ratA m1 0:=by unfold ratA;rw[leN_one];simp
 have hb:leN [1]=ratB 0:=by unfold ratB;rw[leN_one];simp
 refine⟨rfl,_,[m1],_,[1],r1,⟨?_,by simp,by simp,by simp,by simp,Or.inr ⟨rfl,Or.inl rfl⟩⟩,by simp,by simp,rat_end s m p m1 0 [m1] [1] hv ha hb,by rw[leN_one];omega,r4,fun _=>rfl⟩
 rw[leN_one];exact bez_one _
set_option maxRecDepth 100000 in
theorem sameNil_c (w:World):Calls Tryz.prog 195 #[.slice none 0 0, .slice none 0 0] w fun e w'=>e= .returned (.bool false)∧ ∃k,w'=w.drewN k:=by
 go_enter Tryz.func195,Tryz.ntmps195
 go_wp2
 go_quiet (fail)
 go_wp2
 go_ret
 exact⟨rfl,_,rfl⟩
set_option maxRecDepth 100000 in
theorem lshNil_c (w:World):Calls Tryz.prog 173 #[.slice none 0 0, .slice none 0 0, .int .u64 0] w fun e w'=> ∃u,e= .returned u∧Sl .u64 w.heap.size w' u []∧Below w.heap.size w w':=by
 have HS:=Lib.hid (sameNil_c w)
 have HA:=Lib.hid (fun W=>alias_c none 0 0 W)
 have HN:=Lib.hid (fun(n:Nat)=>natSet_c 0 (.slice none 0 0) [] (w.drewN n) Sl.nil (by simp))
 go_enter Tryz.func173,Tryz.ntmps173
 go_wp2_with (first
  |(go_at_call 195;(with_reducible refine HS.out.mono ?_);rintro e w1 ⟨rfl,k,rfl⟩)
  |(go_at_call 164;(with_reducible refine(HA.out _).mono ?_);rintro e w1 ⟨rfl,k2,rfl⟩)
  |(go_at_call 160;(with_reducible refine(HN.out _).mono ?_);rintro e w1 ⟨u,rfl,hs,hb⟩;have HU:=Lib.hid (And.intro hs hb);clear hs hb))
 go_ret
 exact⟨_,rfl,HU.out.1,(pw_below_drewN (Below.refl _ _) _).trans HU.out.2⟩
set_option maxRecDepth 100000 in
theorem intLshNil_c (g o:Nat) (b:Bool) (w:World) (c0:w.cell? ⟨g,o,none⟩=some (.bool b)) (c1:w.cell? ⟨g,o+1,none⟩=some (.slice none 0 0)) (f0:w.frozen? ⟨g,o,none⟩=false) (f1:w.frozen? ⟨g,o+1,none⟩=false):
 Calls Tryz.prog 140 #[.pointer (some ⟨g,o,none⟩), .pointer (some ⟨g,o,none⟩), .int .u64 0] w fun e w'=>e= .returned (.pointer (some ⟨g,o,none⟩))∧ ∃W A c,w'=(W.setCell ⟨g,o+1,none⟩ (.slice A 0 c)).setCell ⟨g,o,none⟩ (.bool b)∧Below w.heap.size w W:=by
 have HC:=Lib.hid (fun w'=>lshNil_c w')
 have hlt:=lt_of_cell c0
 have HB0:Hid (Below w.heap.size w w.drew):=(Below.refl _ _).drew
 go_enter Tryz.func140,Tryz.ntmps140
 go_wp2
 go_region_with (go_at_call 173;refine(HC.out _).mono ?_;rintro e w1 ⟨u,rfl,g1,g6⟩;obtain⟨A1,k1,rfl,_⟩:=g1.c;have hb1:=HB0.out.trans g6;have HG:=Lib.hid hb1;have q0:=(hb1.cell (p:=⟨g,o,none⟩) hlt).trans c0;have q1:=(hb1.cell (p:=⟨g,o+1,none⟩) hlt).trans c1;have r0:=(hb1.frozen (p:=⟨g,o,none⟩) hlt).trans f0;have r1:=(hb1.frozen (p:=⟨g,o+1,none⟩) hlt).trans f1;clear g1 g6 hb1)
 all_goals go_wp2
 all_goals go_ret
 all_goals exact⟨rfl,w1,A1,k1,rfl,HG.out⟩
structure RZ (w0:World) (g:Nat) (va vb:Value) (w:World):Prop where
 blk:w.heap[g]?=some (.cells #[.bool false,va, .bool false,vb] 198 (0,0))
 low:Below g w0 w
theorem RZ.below {w0 w w':World} {g:Nat} {va vb:Value} (h:RZ w0 g va vb w) (hb:Below w.heap.size w w'):RZ w0 g va vb w':=
 ⟨blk_below h.blk hb,h.low.trans (hb.mono (Nat.le_of_lt (blk_lt h.blk)))⟩
theorem RZ.drew {w0 w:World} {g:Nat} {va vb:Value} (h:RZ w0 g va vb w):RZ w0 g va vb w.drew:=h.below ((Below.refl _ _).drew)
theorem rz_wrote {w0 w w':World} {g:Nat} {e:Ending} (h0:RZ w0 g (.slice none 0 0) (.slice none 0 0) w) (h:Wrote w g 2 1 false e w'):RZ w0 g (.slice none 0 0) (.slice (some ⟨w.heap.size,0,none⟩) 1 1) w'∧IRow .u64 w' w.heap.size [1]∧w.heap.size<w'.heap.size∧g<w.heap.size:=by
 obtain⟨_,W,rfl,hr,hb,hz⟩:=h
 have hg:=blk_lt h0.blk
 have h1:=h0.below hb
 exact⟨⟨blk_put (blk_put h1.blk 3 _ rfl) 2 _ rfl,(h1.low.setCell (Nat.le_refl _) _).setCell (Nat.le_refl _) _⟩,(hr.setOther _ _ (Nat.ne_of_lt hg)).setOther _ _ (Nat.ne_of_lt hg),by simpa [World.setCell] using hz,hg⟩
set_option maxRecDepth 100000 in
theorem normZ_c (g rb c:Nat) (A:Option Addr) (w0 w:World) (h:RZ w0 g (.slice A 0 c) (.slice (some ⟨rb,0,none⟩) 1 1) w) (hr:IRow .u64 w rb [1]) (hrl:rb<w.heap.size) (hg:g<rb) (s:Bool) (p:Int):
 Calls Tryz.prog 141 #[.pointer (some ⟨g,0,none⟩)] w (RatF w0 g s 0 p):=by
 have c0:=blk_cell h.blk 0 _ rfl
 have c1:=blk_cell h.blk 1 _ rfl
 have c3:=blk_cell h.blk 3 _ rfl
 have f0:=blk_free h.blk 0
 have f3:=blk_free h.blk 3
 have h1:RZ w0 g (.slice A 0 c) (.slice (some ⟨rb,0,none⟩) 1 1) (w.setCell ⟨g,0,none⟩ (.bool false)):=⟨blk_put h.blk 0 _ rfl,h.low.setCell (Nat.le_refl _) _⟩
 have hr1:=hr.setOther ⟨g,0,none⟩ (.bool false) (Nat.ne_of_lt hg)
 have HS:=Lib.hid (setWordR_c rb 1 1 _ (by omega) hr1)
 have hgr:rb≠g:=by omega
 have hrl1:rb<(w.setCell ⟨g,0,none⟩ (.bool false)).heap.size:=by simpa [World.setCell] using hrl
 have HE:Hid (RatF w0 g s 0 p (.returned (.pointer (some ⟨g,0,none⟩))) (((w.setCell ⟨g,0,none⟩ (.bool false)).setCell ⟨rb,0,none⟩ (.int .u64 1)).setCell ⟨g,3,none⟩ (.slice (some ⟨rb,0,none⟩) 1 1))):=by
  obtain⟨wx,tx⟩:=words_one (x:=1) (by omega) (by omega)
  have hr2:=(irow_set1 (y:=1) hr1)
  refine Lib.hid ⟨rfl,⟨false, .slice A 0 c,[], .slice (some ⟨rb,0,none⟩) 1 1,[1],⟨blk_put (blk_far h1.blk (by show g≠rb;omega) _) 3 _ rfl,?_,?_,(fun _ h=>by cases h),(fun h=>absurd rfl h),wx,tx⟩,(fun _=>rfl),?_,by simp[leN],by simp,by simp,by simp,fun _=>rfl⟩,((h1.low.setCell (p:=⟨rb,0,none⟩) (Nat.le_of_lt hg) _).setCell (Nat.le_refl _) _)⟩
  ·refine⟨A,c,rfl,Nat.zero_le _,by simp,fun h=>absurd rfl h⟩
  ·exact((irow_sl1 hr2 (by simpa [World.setCell] using hrl)).mono hg).setCell (p:=⟨g,3,none⟩) _ (by show g<g+1;omega)
  ·simp[bval,smag,leN]
 clear h h1 hr hr1 hrl1
 go_enter Tryz.func141,Tryz.ntmps141
 go_wp2_with (go_at_call 133;(with_reducible refine HS.out.mono ?_);rintro e w1 ⟨rfl,rfl⟩)
 go_ret
 exact HE.out
set_option maxRecDepth 100000 in
set_option maxHeartbeats 8000000 in
theorem setFloat64_c (g b:Nat) (w:World) (hb:b<18446744073709551616) (s:Bool) (m:Nat) (p:Int) (hd:fdat b= .number s m p) (hk:w.heap[g]?=some (.cells #[.bool false, .slice none 0 0, .bool false, .slice none 0 0] 198 (0,0))):
 Calls Tryz.prog 105 #[.pointer (some ⟨g,0,none⟩), .float .f64 b] w (RatF w g s m p):=by
 have hc:=call_bits b
 have hpn:=part_num b s m p hb hd
 have hne:b/4503599627370496%2048≠2047:=by
  intro h
  by_cases hf:b%4503599627370496=0
  ·have:=fdat_inf b hb h hf;rw[hd] at this;cases this
  ·obtain⟨f,this⟩:=fdat_nan b hb h hf;rw[hd] at this;cases this
 have e1:Go.bits .and .u64 ((b:Int)/4503599627370496) 2047=((b/4503599627370496%2048:Nat):Int):=by
  have:=and_mask (b/4503599627370496) 11 (by omega) (by omega)
  exact this
 have e2:Go.bits .and .u64 (b:Int) 4503599627370495=((b%4503599627370496:Nat):Int):=and_mask b 52 hb (by omega)
 have e3:Go.bits .or .u64 ((b%4503599627370496:Nat):Int) 4503599627370496=((4503599627370496+b%4503599627370496:Nat):Int):=or_high (b%4503599627370496) 52 (by omega) (by omega)
 have HBZ:=Lib.hid (below_zero b s m p hd)
 have HM:m=if b/4503599627370496%2048=0 then b%4503599627370496 else 4503599627370496+b%4503599627370496:=hpn.2.1
 have HP:p=if b/4503599627370496%2048=0 then(-1074:Int) else((b/4503599627370496%2048:Nat):Int)-1075:=hpn.2.2
 obtain⟨e,he⟩: ∃e,b/4503599627370496%2048=e:=⟨_,rfl⟩
 obtain⟨f,hf⟩: ∃f,b%4503599627370496=f:=⟨_,rfl⟩
 have he9:e<2048:=by omega
 have hf9:f<4503599627370496:=by omega
 rw[he] at hne
 rw[he,hf] at HM
 rw[he] at HP
 rw[he] at e1
 rw[hf] at e2 e3
 have e3':Go.bits .or .u64 (f:Int) 4503599627370496=((4503599627370496+f:Nat):Int):=e3
 have hm9:m<9007199254740992:=by rw[HM];split<;>omega
 have hp9: -1074≤p∧p≤971:=by rw[HP];split<;>omega
 have hmp:m=0→p= -1074:=by
  intro h0;rw[HM] at h0;rw[HP]
  split at h0
  ·rename_i h;rw[if_pos h]
  ·omega
 have HMP:=Lib.hid (And.intro HM HP)
 have HB:=Lib.hid hk
 have HQ:=Lib.hid (And.intro hm9 (And.intro hp9 hmp))
 have hx0:((e:Int)==2047)=false:=beq_eq_false_iff_ne.2 (by omega)
 obtain⟨E,hE⟩: ∃E,p+52=E:=⟨_,rfl⟩
 have HE:=Lib.hid hE
 clear e3 he hf hpn hne hk HM HP hm9 hp9 hmp hE hb
 go_enter Tryz.func105,Tryz.ntmps105
 go_upto_block 0 with fail
 go_cut [6,7] (fun a c wx=>a= .int .u64 (m:Int)∧c= .int .i64 E∧wx=w)
 case first=>
  by_cases h0:e=0
  ·subst h0
   have hE1:Hid (E= -1022∧m=f):=Lib.hid (by have:=HMP.out;simp at this;have:=HE.out;omega)
   obtain⟨rfl,rfl⟩:=hE1.out
   clear hE1 e1 e3' hx0
   go_wp2
   go_meet
   exact⟨rfl,rfl,rfl⟩
  ·have hbz:((e:Int)==0)=false:=beq_eq_false_iff_ne.2 (by omega)
   have hE1:Hid (E=(e:Int)-1023∧m=4503599627370496+f):=Lib.hid (by have:=HMP.out;rw[if_neg h0,if_neg h0] at this;have:=HE.out;omega)
   obtain⟨rfl,rfl⟩:=hE1.out
   clear hE1 h0
   go_wp2
   go_meet
   exact⟨rfl,rfl,rfl⟩
 case rest=>
  obtain⟨rfl,rfl,rfl⟩:=hcut
  have HE2:Hid (52-E= -p∧ -1074≤ -p∧ -p≤1074):=Lib.hid (by have:=HE.out;have:=HQ.out;omega)
  have hE3: -2000≤E∧E≤2000:=by have:=HE.out;have:=HQ.out;omega
  obtain⟨S,hS⟩: ∃S,52-E=S:=⟨_,rfl⟩
  have HS:=Lib.hid hS
  go_upto_block 1 with fail
  go_cut [6,8] (fun a c wx=> ∃m1 s1,a= .int .u64 m1∧c= .int .i64 s1∧Hid (Hv m S m1 s1)∧Hid (s1≤0∨m1%2=1)∧wx=wc)
  case first=>
   have hS2: -1074≤S∧S≤1074:=by have:=HE2.out;omega
   have HS2:=Lib.hid hS2
   clear hS hS2
   go_wp2_with fail
   go_loop [6,8] (fun a c=> ∃(m1:Nat) (s1:Int),a= .int .u64 m1∧c= .int .i64 s1∧Hid (Hv m S m1 s1)) (fun _ c=>(intOf c).toNat)
   case atStart=>exact⟨m,S,rfl,rfl,Lib.hid (hv_start m S (by omega))⟩
   case round=>
    obtain⟨m1,s1,rfl,rfl,HV⟩:=hrel
    have hm1:m1<9007199254740992:=by have:=HV.out.mM;have:=HQ.out.1;omega
    have hs1: -1074≤s1∧s1≤1074:=by
     have h1:=HS2.out
     obtain⟨j,_,hj⟩:=HV.out.ex
     rcases Int.lt_or_le s1 0 with h|h
     ·have:=(HV.out.low h).2;omega
     ·omega
    have a1:Go.bits .and .u64 (m1:Int) 1=((m1%2:Nat):Int):=and_mask m1 1 (by omega) (by omega)
    by_cases hm:m1%2=0
    ·rw[hm] at a1
     by_cases hs:0<s1
     ·have HV2:=Lib.hid (hv_step HV.out (by omega) hs)
      have hsh:Op.shift .shr .u64 (m1:Int) .u64 1=pure (.int .u64 ((m1/2:Nat):Int)):=by
       rw[shift_shr_any .u64 .u64 m1 1 (by omega)]
       rfl
      rw[show((m1:Int)/2)=((m1/2:Nat):Int) from by omega] at HV2
      generalize m1/2=h2 at hsh HV2
      clear hm
      go_wp2
      go_round
      case rel=>exact⟨h2,s1-1,rfl,rfl,HV2⟩
      case measure=>simp[intOf];omega
     ·clear hm
      go_wp2
      go_meet
      exact⟨m1,s1,rfl,rfl,HV,Lib.hid (Or.inl (by omega)),rfl⟩
    ·have hm2:m1%2=1:=by omega
     rw[hm2] at a1
     clear hm
     go_wp2
     go_meet
     exact⟨m1,s1,rfl,rfl,HV,Lib.hid (Or.inr (by omega)),rfl⟩
  case rest=>
   obtain⟨m1,s1,rfl,rfl,HV,HX,rfl⟩:=hcut
   obtain⟨t,ht⟩: ∃t,(f64ord b 0==some .lt)=t:=⟨_,rfl⟩
   have hord:(FloatKind.f64.format.order b 0==some Ordering.lt)=t:=ht
   have HT:Hid (t=(s&&decide (m≠0))):=Lib.hid (ht.symm.trans HBZ.out)
   have hV:=HV.out
   have hQ:=HQ.out
   have hE2:=HE2.out
   have HSP:Hid (S= -p):=Lib.hid (hS.symm.trans hE2.1)
   have hs1b: -1074≤s1∧s1≤1074:=by
    obtain⟨j,_,hj⟩:=hV.ex
    rcases Int.lt_or_le s1 0 with h|h
    ·have:=(hV.low h).2;omega
    ·omega
   have hm1b:0≤m1∧m1<9007199254740992:=⟨hV.m0,by have:=hV.mM;omega⟩
   clear ht HBZ hd hE3 hE2 e1 e2 e3' hx0 hc he9 hf9 HMP HE HE2 hS HS
   by_cases hm0:m=0
   ·have hts:t=false:=by rw[HT.out];simp[hm0]
    subst hts
    subst hm0
    have hp:=hQ.2.2 rfl
    have hm1:m1=0:=by have:=hV.mM;have:=hV.m0;omega
    subst hm1
    have hs0:s1=0:=by
     have hS:=HSP.out
     rcases HX.out with h|h
     ·rcases Int.lt_or_le s1 0 with h2|h2
      ·have:=(hV.low h2).2;omega
      ·omega
     ·omega
    subst hs0
    have HU:=Lib.hid (intSetUint64Z_c g 0 false wc (blk_cell HB.out 0 _ rfl) (blk_cell HB.out 1 _ rfl) (blk_free HB.out 0) (blk_free HB.out 1))
    have HW1:Hid (RZ wc g (.slice none 0 0) (.slice none 0 0) ((wc.setCell ⟨g,0+1,none⟩ (.slice none 0 0)).setCell ⟨g,0,none⟩ (.bool false))):=Lib.hid ⟨blk_put (blk_put HB.out 1 _ rfl) 0 _ rfl,((Below.refl g wc).setCell (p:=⟨g,0+1,none⟩) (Nat.le_refl _) _).setCell (p:=⟨g,0,none⟩) (Nat.le_refl _) _⟩
    have hw0:IntKind.i64.wrap 0=0:=by decide
    have hw1:IntKind.u64.wrap 0=0:=by decide
    clear hm1b hQ hV hs1b HT
    go_upto_region 17 with(go_at_call 138;(with_reducible refine HU.out.mono ?_);rintro e w1 ⟨rfl,hw1⟩;rw[←hw1] at HW1;clear hw1;have q0:=blk_cell HW1.out.blk 0 _ rfl;have f0:=blk_free HW1.out.blk 0)
    have HR2:Hid (RZ wc g (.slice none 0 0) (.slice none 0 0) (w1.setCell ⟨g,0,none⟩ (.bool false))):=Lib.hid ⟨blk_put HW1.out.blk 0 _ rfl,HW1.out.low.setCell (Nat.le_refl _) _⟩
    clear HW1 q0 f0 hord HU
    generalize w1.setCell ⟨g,0,none⟩ (.bool false)=w2 at HR2⊢
    go_region_held3 (fun _=>True) (trivial) (first|(go_at_call 139;(refine(intOne_c _).mono ?_);rintro e w3 ⟨gx,u,rfl,hgx,hp,hb⟩;have HP:=Lib.hid (And.intro hgx hp);have HR3:=Lib.hid (HR2.out.drew.below hb);clear hgx hp hb)|(go_at_call 132;(refine(intSetOneAt_c gx 0 g 2 false false u 1 _ HP.out.2 (by have h1:=HP.out.1;have h2:=blk_lt HR2.out.blk;have h4:w2.drew.heap.size=w2.heap.size:=rfl;omega) HR3.out.blk rfl rfl).mono ?_);intro e w4 hw4;have HR4:=Lib.hid (rz_wrote HR3.out hw4);obtain⟨rfl,_⟩:=hw4))
    clear HR2 HP
    have HL:=Lib.hid (intLshNil_c g 0 false w4.drew (blk_cell HR4.out.1.drew.blk 0 _ rfl) (blk_cell HR4.out.1.drew.blk 1 _ rfl) (blk_free HR4.out.1.drew.blk 0) (blk_free HR4.out.1.drew.blk 1))
    go_wp2_with fail
    go_region_held3 (fun _=>True) (trivial) (first|(go_at_call 140;(with_reducible refine HL.out.mono ?_);rintro e w5 ⟨rfl,W,A,c,hw5,hb⟩;have HN:=Lib.hid (normZ_c g _ c A wc w5 (by rw[hw5];exact⟨blk_put (blk_put (HR4.out.1.drew.below hb).blk 1 _ rfl) 0 _ rfl,((HR4.out.1.drew.below hb).low.setCell (Nat.le_refl _) _).setCell (Nat.le_refl _) _⟩) (by rw[hw5];exact(((HR4.out.2.1.drew.below hb HR4.out.2.2.1).setOther _ _ (Nat.ne_of_lt HR4.out.2.2.2)).setOther _ _ (Nat.ne_of_lt HR4.out.2.2.2))) (by rw[hw5];have:=Nat.lt_of_lt_of_le HR4.out.2.2.1 hb.size;simpa [World.setCell] using this) HR4.out.2.2.2 s p);clear hw5 hb))
    go_wp2_with (go_at_call 141;(with_reducible refine HN.out.mono ?_);intro e w6 hw6;have HF:=Lib.hid hw6;obtain⟨rfl,_⟩:=hw6)
    go_ret
    exact⟨rfl,HF.out.2⟩
   ·have htS:Hid (t=s):=Lib.hid (by rw[HT.out];simp[hm0])
    have hm1p:0<m1:=by
     obtain⟨j,hj,_⟩:=hV.ex
     rcases Int.lt_or_le 0 m1 with h|h
     ·exact h
     ·exfalso
      have:m1=0:=by omega
      rw[this,Int.zero_mul] at hj
      omega
    have HU:=Lib.hid (intSetUint64_c g 0 false m1 wc hm1p (by omega) (blk_cell HB.out 0 _ rfl) (blk_cell HB.out 1 _ rfl) (blk_free HB.out 0) (blk_free HB.out 1))
    have HM1:=Lib.hid (And.intro hm1p hm1b)
    have HS1:=Lib.hid hs1b
    clear hm1b hm1p hQ hV hm0 HT
    go_upto_region 17 with(go_at_call 138;(with_reducible refine HU.out.mono ?_);intro e w1 hw1;have HR1:=Lib.hid (rs_wrote HB.out hw1);obtain⟨rfl,_⟩:=hw1;have q0:=blk_cell HR1.out.blk 0 _ rfl;have f0:=blk_free HR1.out.blk 0)
    have HR2:=Lib.hid (HR1.out.neg t)
    clear HR1 q0 f0 hord HU
    generalize w1.setCell ⟨g,0,none⟩ (.bool t)=w2 at HR2⊢
    go_region_held3 (fun _=>True) (trivial) (first|(go_at_call 139;(refine(intOne_c _).mono ?_);rintro e w3 ⟨gx,u,rfl,hgx,hp,hb⟩;have HP:=Lib.hid (And.intro hgx hp);have HR3:=Lib.hid (HR2.out.drew.below hb);clear hgx hp hb)|(go_at_call 132;(refine(intSetOneAt_c gx 0 g 2 false false u 1 _ HP.out.2 (by have h1:=HP.out.1;have h2:=HR2.out.gr;have h3:_<w2.heap.size:=HR2.out.rl;have h4:w2.drew.heap.size=w2.heap.size:=rfl;omega) HR3.out.blk rfl rfl).mono ?_);intro e w4 hw4;have HR4:=Lib.hid (rs2_wrote HR3.out hw4);obtain⟨rfl,_⟩:=hw4))
    clear HR2 HR3 HP
    have hts:=htS.out
    subst hts
    rw[HSP.out] at HV
    by_cases hs:0<s1
    ·obtain⟨k,rfl⟩:=Int.eq_ofNat_of_zero_le (Int.le_of_lt hs)
     have hk9:(k:Int)≤1074:=hs1b.2
     have hodd:m1%2=1:=by rcases HX.out with h|h;omega;exact h
     have HL:Hid (Calls Tryz.prog 140 #[.pointer (some ⟨g,2,none⟩), .pointer (some ⟨g,2,none⟩), .int .u64 k] w4.drew (Norm wc g 2 t m p)):=Lib.hid ((intLsh_c g 2 _ false 1 k w4.drew HR4.out.drew.row (by omega) (by omega) (by omega) (by omega) HR4.out.drew.rl (blk_cell HR4.out.drew.a.blk 2 _ rfl) (blk_cell HR4.out.drew.a.blk 3 _ rfl) (blk_free HR4.out.drew.a.blk 2) (blk_free HR4.out.drew.a.blk 3)).mono fun e w' h=>norm_b HR4.out.drew HM1.out.1 HM1.out.2.2 hs (by omega) hodd HV.out h)
     clear hodd
     have hwk:IntKind.u64.wrap (k:Int)=(k:Int):=wrap_same _ (by omega) (by omega)
     go_wp2_with fail
     go_region_held3 (fun _=>True) (trivial) (first|(go_at_call 140;(with_reducible refine HL.out.mono ?_);intro e w5 hw5;have HN:=Lib.hid (norm_end hw5).2;obtain⟨rfl,_⟩:=hw5))
     go_wp2_with (go_at_call 141;(with_reducible refine HN.out.mono ?_);intro e w6 hw6;have HF:=Lib.hid hw6;obtain⟨rfl,_⟩:=hw6)
     go_ret
     exact⟨rfl,HF.out.2⟩
    ·by_cases hz:s1=0
     ·subst hz
      have hw0:IntKind.i64.wrap 0=0:=by decide
      have hw1:IntKind.u64.wrap 0=0:=by decide
      have HL:Hid (Calls Tryz.prog 140 #[.pointer (some ⟨g,0,none⟩), .pointer (some ⟨g,0,none⟩), .int .u64 0] w4.drew (Norm wc g 0 t m p)):=Lib.hid ((intLsh0_c g 0 _ t m1 w4.drew HR4.out.drew.a.row HM1.out.1 (by have:=HM1.out;omega) HR4.out.drew.a.rl (Nat.ne_of_lt HR4.out.drew.a.gr) (blk_cell HR4.out.drew.a.blk 0 _ rfl) (blk_cell HR4.out.drew.a.blk 1 _ rfl) (blk_free HR4.out.drew.a.blk 0) (blk_free HR4.out.drew.a.blk 1)).mono fun e w' ⟨he,n,hw⟩=>by subst he;subst hw;exact norm_0 HR4.out.drew HM1.out.1 HM1.out.2.2 HV.out n)
      go_wp2_with fail
      go_region_held3 (fun _=>True) (trivial) (first|(go_at_call 140;(with_reducible refine HL.out.mono ?_);intro e w5 hw5;have HN:=Lib.hid (norm_end hw5).2;obtain⟨rfl,_⟩:=hw5))
      go_wp2_with (go_at_call 141;(with_reducible refine HN.out.mono ?_);intro e w6 hw6;have HF:=Lib.hid hw6;obtain⟨rfl,_⟩:=hw6)
      go_ret
      exact⟨rfl,HF.out.2⟩
     ·obtain⟨k,rfl⟩: ∃k:Nat,s1= -(k:Int):=⟨(-s1).toNat,by omega⟩
      have hk9:(k:Int)≤1074:=by omega
      have hk1:0<k:=by omega
      have HL:Hid (Calls Tryz.prog 140 #[.pointer (some ⟨g,0,none⟩), .pointer (some ⟨g,0,none⟩), .int .u64 k] w4.drew (Norm wc g 0 t m p)):=Lib.hid ((intLsh_c g 0 _ t m1 k w4.drew HR4.out.drew.a.row HM1.out.1 (by have:=HM1.out;omega) hk1 (by omega) HR4.out.drew.a.rl (blk_cell HR4.out.drew.a.blk 0 _ rfl) (blk_cell HR4.out.drew.a.blk 1 _ rfl) (blk_free HR4.out.drew.a.blk 0) (blk_free HR4.out.drew.a.blk 1)).mono fun e w' h=>norm_a HR4.out.drew HM1.out.1 (by omega) HV.out h)
      clear hz
      have hwk:IntKind.u64.wrap (k:Int)=(k:Int):=wrap_same _ (by omega) (by omega)
      have hwi:IntKind.i64.wrap (k:Int)=(k:Int):=IntWalk.i64_in _ (by omega)
      have hwn:IntKind.i64.wrap (-(-(k:Int)))=(k:Int):=by rw[Int.neg_neg];exact hwi
      go_wp2_with fail
      go_region_held3 (fun _=>True) (trivial) (first|(go_at_call 140;(with_reducible refine HL.out.mono ?_);intro e w5 hw5;have HN:=Lib.hid (norm_end hw5).2;obtain⟨rfl,_⟩:=hw5))
      go_wp2_with (go_at_call 141;(with_reducible refine HN.out.mono ?_);intro e w6 hw6;have HF:=Lib.hid hw6;obtain⟨rfl,_⟩:=hw6)
      go_ret
      exact⟨rfl,HF.out.2⟩
def RatI (w:World) (g:Nat) (x:Int) (e:Ending) (w':World):Prop:=
 e= .returned (.pointer (some ⟨g,0,none⟩))∧(∃na va xs vb,RT w' g na va xs vb [1]∧(xs=[]→na=false)∧bval na xs=x∧xs.length≤1000)∧Below g w w'
def WroteL (w:World) (g o:Nat) (zs:List Int) (b:Bool) (e:Ending) (w':World):Prop:=
 e= .returned (.pointer (some ⟨g,o,none⟩))∧ ∃W c,w'=(W.setCell ⟨g,o+1,none⟩ (.slice (some ⟨w.heap.size,0,none⟩) zs.length c)).setCell ⟨g,o,none⟩ (.bool b)∧zs.length≤c∧IRow .u64 W w.heap.size zs∧Below w.heap.size w W∧w.heap.size<W.heap.size
set_option maxRecDepth 100000 in
theorem intSetAt_c (g o g2 o2:Nat) (neg n0:Bool) (v:Value) (zs:List Int) (w:World) (h:PI w g o neg v zs) (hz:zs≠[]) (hlen:zs.length≤4398046511104) (hne:g2≠g) {cs:Array Value} {t:TypeId} (hk:w.heap[g2]?=some (.cells cs t (0,0))) (c0:cs[o2]?=some (.bool n0)) (c1:cs[o2+1]?=some (.slice none 0 0)):
 Calls Tryz.prog 132 #[.pointer (some ⟨g2,o2,none⟩), .pointer (some ⟨g,o,none⟩)] w (WroteL w g2 o2 zs neg):=by
 obtain⟨cs1,ct1,hblk,_⟩:=h.blk
 have hpe:(binOp .neq 118 (.pointer (some ⟨g2,o2,none⟩)) (.pointer (some ⟨g,o,none⟩))).run Tryz.prog w= .ok (.bool true) w:=by
  obtain⟨i,hi,hs⟩:=Option.map_eq_some_iff.1 intInfo
  exact run_neq_ptr_other w Tryz.underlying118 hi (by rw[hs];decide) (by intro e;injection e with e;exact hne e) hk hblk
 clear hblk
 have d0:=blk_cell hk o2 _ c0
 have d1:=blk_cell hk (o2+1) _ c1
 have g0:=blk_free hk o2
 have g1:=blk_free hk (o2+1)
 have hlt2:g2<w.heap.size:=lt_of_cell d0
 clear hk c0 c1
 have c0:=h.c0
 have c1:=h.c1
 have hlt:=h.lt
 have HC:=Lib.hid (fun w' (hb:Below w.heap.size w w')=>natSetO_c _ v zs w' (h.sl.below hb) hz hlen)
 have hnq:g≠g2:=Ne.symm hne
 obtain⟨A,c,rfl,_⟩:=h.sl.c
 clear h
 have HB0:Hid (Below w.heap.size w w):=Below.refl _ _
 go_enter Tryz.func132,Tryz.ntmps132
 go_wp2
 go_region_with (go_at_call 160;refine(HC.out _ HB0.out.drew).mono ?_;rintro e w1 ⟨cc,rfl,hcc,hr,hz,hb⟩;have hb1:=HB0.out.drew.trans hb;have HR:=Lib.hid (And.intro hcc (And.intro hr (And.intro hb1 hz)));have q0:=(hb1.cell (p:=⟨g2,o2,none⟩) hlt2).trans d0;have q1:=(hb1.cell (p:=⟨g2,o2+1,none⟩) hlt2).trans d1;have r0:=(hb1.frozen (p:=⟨g2,o2,none⟩) hlt2).trans g0;have r1:=(hb1.frozen (p:=⟨g2,o2+1,none⟩) hlt2).trans g1;have p0:=(hb1.cell (p:=⟨g,o,none⟩) hlt).trans c0;have p1:=(hb1.cell (p:=⟨g,o+1,none⟩) hlt).trans c1;clear hr hb hz hb1 hcc)
 all_goals go_wp2
 all_goals go_ret
 all_goals exact⟨rfl,w1,cc,rfl,HR.out⟩
theorem ri_end {w0 w W:World} {g:Nat} {na:Bool} {va:Value} {xs:List Int} {x:Int} (hb0:Below g w0 w) (hk:w.heap[g]?=some (.cells #[.bool na,va, .bool false, .slice none 0 0] 198 (0,0))) (hs:Sl .u64 (g+1) w va xs) (wx:Words xs) (tx:Top xs) (hz:xs=[]→na=false) (hv:bval na xs=x) (hl:xs.length≤1000)
 (h1:One w 1 (.returned (.slice (some ⟨w.heap.size,0,none⟩) 1 1)) W):RatI w0 g x (.returned (.pointer (some ⟨g,0,none⟩))) (W.setCell ⟨g,3,none⟩ (.slice (some ⟨w.heap.size,0,none⟩) 1 1)):=by
 obtain⟨_,hr,hb,hsz⟩:=h1
 have hg:=blk_lt hk
 have hw:Words [1]∧Top [1]:=⟨fun z hz=>by rw[List.mem_singleton] at hz;omega,fun _=>by simp⟩
 refine⟨rfl,⟨na,va,xs, .slice (some ⟨w.heap.size,0,none⟩) 1 1,⟨blk_put (blk_below hk hb) 3 _ rfl,(hs.below hb).setCell (p:=⟨g,3,none⟩) _ (by show g<g+1;omega),?_,wx,tx,hw.1,hw.2⟩,hz,hv,hl⟩,(hb0.trans (hb.mono (Nat.le_of_lt hg))).setCell (Nat.le_refl _) _⟩
 have:=hr.sl' (by omega:w.heap.size<W.heap.size) (c:=1) (by simp) (by simp)
 exact((show Sl .u64 w.heap.size W (.slice (some ⟨w.heap.size,0,none⟩) 1 1) [1] by simpa using this).mono hg).setCell (p:=⟨g,3,none⟩) _ (by show g<g+1;omega)
theorem wroteL_rat {w w1:World} {g:Nat} {neg:Bool} {zs:List Int} {e:Ending} (hk:w.heap[g]?=some (.cells #[.bool false, .slice none 0 0, .bool false, .slice none 0 0] 198 (0,0))) (hlen:zs.length≤1000) (h:WroteL w g 0 zs neg e w1):
 ∃c,w1.heap[g]?=some (.cells #[.bool neg, .slice (some ⟨w.heap.size,0,none⟩) zs.length c, .bool false, .slice none 0 0] 198 (0,0))∧Below g w w1∧Sl .u64 (g+1) w1 (.slice (some ⟨w.heap.size,0,none⟩) zs.length c) zs:=by
 have hg:=blk_lt hk
 obtain⟨_,W,c,rfl,hc,hr,hb,hsz⟩:=h
 refine⟨c,blk_put (blk_put ((hb.block g hg).trans hk) 1 _ rfl) 0 _ rfl,((hb.mono (Nat.le_of_lt hg)).setCell (p:=⟨g,0+1,none⟩) (Nat.le_refl _) _).setCell (p:=⟨g,0,none⟩) (Nat.le_refl _) _,?_⟩
 exact(((hr.sl' hsz hc (by omega)).mono hg).setCell (p:=⟨g,0+1,none⟩) _ (by show g<g+1;omega)).setCell (p:=⟨g,0,none⟩) _ (by show g<g+1;omega)
set_option maxRecDepth 100000 in
theorem ratSetInt_c (g gx:Nat) (neg:Bool) (v:Value) (zs:List Int) (w:World) (h:PI w gx 0 neg v zs) (hz:zs≠[]) (hlen:zs.length≤1000) (hne:g≠gx) (hk:w.heap[g]?=some (.cells #[.bool false, .slice none 0 0, .bool false, .slice none 0 0] 198 (0,0))):
 Calls Tryz.prog 99 #[.pointer (some ⟨g,0,none⟩), .pointer (some ⟨gx,0,none⟩)] w (RatI w g (bval neg zs)):=by
 have HS:=Lib.hid (intSetAt_c gx 0 g 0 neg false v zs w h hz (by omega) hne hk rfl rfl)
 have HW:=Lib.hid (fun w1 e hw=>wroteL_rat (w1:=w1) (e:=e) (neg:=neg) hk hlen hw)
 have HO:=Lib.hid (fun W=>setWordO_c 1 W (by omega))
 have HN:=Lib.hid (And.intro h.words (And.intro h.top hz))
 clear h hk hne
 go_enter Tryz.func99,Tryz.ntmps99
 go_wp2_with (first
  |(go_at_call 132;(with_reducible refine HS.out.mono ?_);intro e w1 hw1;obtain⟨c,k1,k2,k3⟩:=HW.out w1 e hw1;obtain⟨rfl,_⟩:=hw1;have c3:=blk_cell k1 3 _ rfl;have HK:=Lib.hid (And.intro k1 (And.intro k2 k3));clear k1 k2 k3)
  |(go_at_call 133;(with_reducible refine(HO.out _).mono ?_);intro e w2 hw2;have he:=hw2.1;subst he;have HE:=Lib.hid (ri_end HK.out.2.1 HK.out.1 HK.out.2.2 HN.out.1 HN.out.2.1 (fun e=>absurd e HN.out.2.2) rfl hlen hw2);have q3:=blk_cell (blk_below HK.out.1 hw2.2.2.1) 3 _ rfl;have f3:=blk_free (blk_below HK.out.1 hw2.2.2.1) 3;clear hw2))
 go_ret
 exact HE.out
theorem abs_cases (x:Int) (h:x≠0) (hb: -9223372036854775807≤x∧x≤9223372036854775807): ∃(n:Bool) (y:Int),(if n then x= -y else x=y)∧0<y∧y≤9223372036854775807:=by
 by_cases hx:x<0
 ·exact⟨true,-x,by simp,by omega,by omega⟩
 ·exact⟨false,x,by simp,by omega,by omega⟩
set_option maxRecDepth 100000 in
theorem intSetInt64_c (g o:Nat) (n0 n:Bool) (x y:Int) (w:World) (hx:if n then x= -y else x=y) (h0:0<y) (h1:y≤9223372036854775807) (c0:w.cell? ⟨g,o,none⟩=some (.bool n0)) (c1:w.cell? ⟨g,o+1,none⟩=some (.slice none 0 0)) (f0:w.frozen? ⟨g,o,none⟩=false) (f1:w.frozen? ⟨g,o+1,none⟩=false):
 Calls Tryz.prog 134 #[.pointer (some ⟨g,o,none⟩), .int .i64 x] w (Wrote w g o y n):=by
 have HS:=Lib.hid (setUint64O_c y w h0 (by omega))
 have hlt:=lt_of_cell c0
 cases n
 ·simp at hx
  subst hx
  have hx1: ¬x<0:=by omega
  go_enter Tryz.func134,Tryz.ntmps134
  go_wp2_with (go_at_call 162;(with_reducible refine HS.out.mono ?_);rintro e w1 ⟨rfl,hr,hb,hz⟩;have HR:=Lib.hid (And.intro hr (And.intro hb (Nat.lt_of_lt_of_eq (Nat.lt_succ_self _) hz.symm)));have d0:=(hb.cell (p:=⟨g,o,none⟩) hlt).trans c0;have d1:=(hb.cell (p:=⟨g,o+1,none⟩) hlt).trans c1;have e0:=(hb.frozen (p:=⟨g,o,none⟩) hlt).trans f0;have e1:=(hb.frozen (p:=⟨g,o+1,none⟩) hlt).trans f1;clear hr hb hz)
  go_ret
  exact⟨rfl,w1,rfl,HR.out⟩
 ·simp at hx
  subst hx
  have hx1: -y<0:=by omega
  have hyy: -(-y)=y:=by omega
  go_enter Tryz.func134,Tryz.ntmps134
  go_wp2_with (go_at_call 162;(with_reducible refine HS.out.mono ?_);rintro e w1 ⟨rfl,hr,hb,hz⟩;have HR:=Lib.hid (And.intro hr (And.intro hb (Nat.lt_of_lt_of_eq (Nat.lt_succ_self _) hz.symm)));have d0:=(hb.cell (p:=⟨g,o,none⟩) hlt).trans c0;have d1:=(hb.cell (p:=⟨g,o+1,none⟩) hlt).trans c1;have e0:=(hb.frozen (p:=⟨g,o,none⟩) hlt).trans f0;have e1:=(hb.frozen (p:=⟨g,o+1,none⟩) hlt).trans f1;clear hr hb hz)
  go_ret
  exact⟨rfl,w1,rfl,HR.out⟩
set_option maxRecDepth 100000 in
theorem intSetInt64Z_c (g o:Nat) (n0:Bool) (w:World) (c0:w.cell? ⟨g,o,none⟩=some (.bool n0)) (c1:w.cell? ⟨g,o+1,none⟩=some (.slice none 0 0)) (f0:w.frozen? ⟨g,o,none⟩=false) (f1:w.frozen? ⟨g,o+1,none⟩=false):
 Calls Tryz.prog 134 #[.pointer (some ⟨g,o,none⟩), .int .i64 0] w fun e w'=>e= .returned (.pointer (some ⟨g,o,none⟩))∧w'=(w.setCell ⟨g,o+1,none⟩ (.slice none 0 0)).setCell ⟨g,o,none⟩ (.bool false):=by
 have HS:=Lib.hid (setUint64Z_c w)
 go_enter Tryz.func134,Tryz.ntmps134
 go_wp2_with (go_at_call 162;(with_reducible refine HS.out.mono ?_);rintro e w1 ⟨rfl,rfl⟩)
 go_ret
 exact⟨rfl,rfl⟩
theorem wrote_rat {w w1:World} {g:Nat} {neg:Bool} {y:Int} {e:Ending} (hk:w.heap[g]?=some (.cells #[.bool false, .slice none 0 0, .bool false, .slice none 0 0] 198 (0,0))) (h:Wrote w g 0 y neg e w1):
 w1.heap[g]?=some (.cells #[.bool neg, .slice (some ⟨w.heap.size,0,none⟩) 1 1, .bool false, .slice none 0 0] 198 (0,0))∧Below g w w1∧Sl .u64 (g+1) w1 (.slice (some ⟨w.heap.size,0,none⟩) 1 1) [y]:=by
 have hg:=blk_lt hk
 obtain⟨_,W,rfl,hr,hb,hsz⟩:=h
 refine⟨blk_put (blk_put ((hb.block g hg).trans hk) 1 _ rfl) 0 _ rfl,((hb.mono (Nat.le_of_lt hg)).setCell (p:=⟨g,0+1,none⟩) (Nat.le_refl _) _).setCell (p:=⟨g,0,none⟩) (Nat.le_refl _) _,?_⟩
 have:=hr.sl' hsz (c:=1) (by simp) (by simp)
 exact(((show Sl .u64 w.heap.size W (.slice (some ⟨w.heap.size,0,none⟩) 1 1) [y] by simpa using this).mono hg).setCell (p:=⟨g,0+1,none⟩) _ (by show g<g+1;omega)).setCell (p:=⟨g,0,none⟩) _ (by show g<g+1;omega)
set_option maxRecDepth 100000 in
theorem ratSetInt64_c (g:Nat) (x:Int) (w:World) (hb: -9223372036854775807≤x∧x≤9223372036854775807) (hk:w.heap[g]?=some (.cells #[.bool false, .slice none 0 0, .bool false, .slice none 0 0] 198 (0,0))):
 Calls Tryz.prog 100 #[.pointer (some ⟨g,0,none⟩), .int .i64 x] w (RatI w g x):=by
 have HO:=Lib.hid (fun W=>setWordO_c 1 W (by omega))
 by_cases hx:x=0
 ·subst hx
  have HS:=Lib.hid (intSetInt64Z_c g 0 false w (blk_cell hk 0 _ rfl) (blk_cell hk 1 _ rfl) (blk_free hk 0) (blk_free hk 1))
  have HK:Hid ((((w.setCell ⟨g,0+1,none⟩ (.slice none 0 0)).setCell ⟨g,0,none⟩ (.bool false)).heap[g]?=some (.cells #[.bool false, .slice none 0 0, .bool false, .slice none 0 0] 198 (0,0)))∧Below g w ((w.setCell ⟨g,0+1,none⟩ (.slice none 0 0)).setCell ⟨g,0,none⟩ (.bool false))):=Lib.hid ⟨blk_put (blk_put hk 1 _ rfl) 0 _ rfl,((Below.refl g w).setCell (p:=⟨g,0+1,none⟩) (Nat.le_refl _) _).setCell (p:=⟨g,0,none⟩) (Nat.le_refl _) _⟩
  clear hk hb
  go_enter Tryz.func100,Tryz.ntmps100
  go_wp2_with (first
   |(go_at_call 134;(with_reducible refine HS.out.mono ?_);rintro e w1 ⟨rfl,hw1⟩;rw[←hw1] at HK;clear hw1;have c3:=blk_cell HK.out.1 3 _ rfl)
   |(go_at_call 133;(with_reducible refine(HO.out _).mono ?_);intro e w2 hw2;have he:=hw2.1;subst he;have HE:=Lib.hid (ri_end HK.out.2 HK.out.1 Sl.nil (fun _ h=>by cases h) (fun h=>absurd rfl h) (fun _=>rfl) rfl (by simp) hw2);have q3:=blk_cell (blk_below HK.out.1 hw2.2.2.1) 3 _ rfl;have f3:=blk_free (blk_below HK.out.1 hw2.2.2.1) 3;clear hw2))
  go_ret
  exact HE.out
 ·obtain⟨n,y,hn,hy0,hy1⟩:=abs_cases x hx hb
  have HS:=Lib.hid (intSetInt64_c g 0 false n x y w hn hy0 hy1 (blk_cell hk 0 _ rfl) (blk_cell hk 1 _ rfl) (blk_free hk 0) (blk_free hk 1))
  have HW:=Lib.hid (fun w1 e hw=>wrote_rat (w1:=w1) (e:=e) (neg:=n) (y:=y) hk hw)
  have HV:Hid (bval n [y]=x∧Words [y]∧Top [y]):=Lib.hid ⟨by unfold bval;cases n<;>simp at hn<;>simp[leN,hn],fun z hz=>by rw[List.mem_singleton] at hz;omega,fun _=>by simp;omega⟩
  clear hk hb hx hn
  go_enter Tryz.func100,Tryz.ntmps100
  go_wp2_with (first
   |(go_at_call 134;(with_reducible refine HS.out.mono ?_);intro e w1 hw1;obtain⟨k1,k2,k3⟩:=HW.out w1 e hw1;obtain⟨rfl,_⟩:=hw1;have c3:=blk_cell k1 3 _ rfl;have HK:=Lib.hid (And.intro k1 (And.intro k2 k3));clear k1 k2 k3)
   |(go_at_call 133;(with_reducible refine(HO.out _).mono ?_);intro e w2 hw2;have he:=hw2.1;subst he;have HE:=Lib.hid (ri_end HK.out.2.1 HK.out.1 HK.out.2.2 HV.out.2.1 HV.out.2.2 (fun e=>by cases e) HV.out.1 (by simp) hw2);have q3:=blk_cell (blk_below HK.out.1 hw2.2.2.1) 3 _ rfl;have f3:=blk_free (blk_below HK.out.1 hw2.2.2.1) 3;clear hw2))
  go_ret
  exact HE.out
def AllBut (g:Nat) (w w':World):Prop:=(∀b,b<w.heap.size→b≠g→w'.heap[b]?=w.heap[b]?)∧w.heap.size≤w'.heap.size
theorem cell_heap {w w':World} {b:Nat} (h:w'.heap[b]?=w.heap[b]?) (o:Nat):w'.cell? ⟨b,o,none⟩=w.cell? ⟨b,o,none⟩:=by simp[World.cell?,h]
theorem allBut_of {w W:World} {g o p:Nat} {u v:Value} (hb:Below w.heap.size w W):AllBut g w ((W.setCell ⟨g,o,none⟩ u).setCell ⟨g,p,none⟩ v):=
 ⟨fun b hlt hne=>(Below.heap_setCell _ _ _ b hne).trans ((Below.heap_setCell _ _ _ b hne).trans (hb.block b hlt)),by simpa [World.setCell] using hb.size⟩
theorem Sl.but {k:IntKind} {B g:Nat} {w w':World} {v:Value} {l:List Int} (h:Sl k B w v l) (hb:AllBut g w w') (hg:g<B):Sl k B w' v l:=by
 obtain⟨A,c,rfl,h1,h2,h3⟩:=h
 exact⟨A,c,rfl,h1,h2,fun hne=>by obtain⟨b,o,rfl,hB,hlt,hc⟩:=h3 hne;exact⟨b,o,rfl,hB,Nat.lt_of_lt_of_le hlt hb.2,fun j hj=>by rw[cell_heap (hb.1 b hlt (by omega))];exact hc j hj⟩⟩
set_option maxRecDepth 100000 in
theorem scaleDenom_c (gz gx ox:Nat) (n:Bool) (v vy:Value) (xs ys:List Int) (p:Option Addr) (w:World) (hx:PI w gx ox n v xs) (hy:Sl .u64 0 w vy ys) (wy:Words ys) (ty:Top ys) (hne:ys≠[]) (hgx:gx≠gz) (lx:xs.length≤1000) (ly:ys.length≤1000) (hmin:xs.length<40∨ys.length<40) (hT:Thr w)
 (hk:w.heap[gz]?=some (.cells #[.bool false, .slice none 0 0] 196 (0,0))):
 Calls Tryz.prog 103 #[.pointer (some ⟨gz,0,none⟩), .pointer p, .pointer (some ⟨gx,ox,none⟩),vy] w fun e w'=>e= .returned (.tuple #[])∧(∃u zs,w'.heap[gz]?=some (.cells #[.bool n,u] 196 (0,0))∧Sl .u64 w.heap.size w' u zs∧Words zs∧Top zs∧leN zs=leN xs*leN ys∧zs.length≤2000)∧AllBut gz w w'∧Below gz w w':=by
 have hl0:((ys.length:Int)==0)=false:=beq_eq_false_iff_ne.2 (by have:=List.length_pos_iff.2 hne;omega)
 have d0:=blk_cell hk 0 _ rfl
 have d1:=blk_cell hk 1 _ rfl
 have z0:=blk_free hk 0
 have z1:=blk_free hk 1
 have hlt2:gz<w.heap.size:=lt_of_cell d0
 have HK:=Lib.hid hk
 have c0:=hx.c0
 have c1:=hx.c1
 have hlt:=hx.lt
 have HC:=Lib.hid (fun w' (hb:Below w.heap.size w w')=>natMul_c _ _ v vy xs ys p w' (hx.sl.below hb) (hy.below hb) hx.words wy hx.top ty (by omega) (by omega) hmin (hT.below hb))
 obtain⟨A,c,rfl,_⟩:=hx.sl.c
 obtain⟨A2,k2,rfl,_⟩:=hy.c
 have HB0:Hid (Below w.heap.size w w.drew):=(Below.refl _ _).drew
 clear hk hx hy wy ty hne hT hmin
 go_enter Tryz.func103,Tryz.ntmps103
 go_wp2
 go_region_with (go_at_call 136;refine(HC.out _ HB0.out).mono ?_;rintro e w1 ⟨u,zs,rfl,g1,g2,g3,g4,g5,g6⟩;obtain⟨A1,k1,rfl,_⟩:=g1.c;have hb1:=HB0.out.trans g6;have HG:=Lib.hid (And.intro g1 (And.intro g2 (And.intro g3 (And.intro g4 (And.intro g5 hb1)))));have q0:=(hb1.cell (p:=⟨gz,0,none⟩) hlt2).trans d0;have q1:=(hb1.cell (p:=⟨gz,1,none⟩) hlt2).trans d1;have r0:=(hb1.frozen (p:=⟨gz,0,none⟩) hlt2).trans z0;have r1:=(hb1.frozen (p:=⟨gz,1,none⟩) hlt2).trans z1;have p0:=(hb1.cell (p:=⟨gx,ox,none⟩) hlt).trans c0;have p1:=(hb1.cell (p:=⟨gx,ox+1,none⟩) hlt).trans c1;clear g1 g2 g3 g4 g5 g6 hb1)
 all_goals go_wp2
 all_goals go_end0
 all_goals exact⟨rfl,⟨_,zs,blk_put (blk_put ((HG.out.2.2.2.2.2.block gz hlt2).trans HK.out) 1 _ rfl) 0 _ rfl,(HG.out.1.setCell (p:=⟨gz,1,none⟩) _ hlt2).setCell (p:=⟨gz,0,none⟩) _ hlt2,HG.out.2.1,HG.out.2.2.1,HG.out.2.2.2.1,by have:=HG.out.2.2.2.2.1;omega⟩,allBut_of HG.out.2.2.2.2.2,((HG.out.2.2.2.2.2.mono (Nat.le_of_lt hlt2)).setCell (p:=⟨gz,1,none⟩) (Nat.le_refl _) _).setCell (p:=⟨gz,0,none⟩) (Nat.le_refl _) _⟩
theorem leN_nil_iff {l:List Int} (hw:Words l) (ht:Top l) (h:leN l=0):l=[]:=by
 by_cases e:l=[]
 ·exact e
 ·have:=leN_top l hw ht e
  have:=wpos (l.length-1)
  omega
theorem bval_mul (n:Bool) (xs zs:List Int) (y:Int) (h:leN zs=leN xs*y):bval n zs=bval n xs*y:=by
 unfold bval;rw[h];cases n<;>simp[Int.neg_mul]
set_option maxRecDepth 100000 in
set_option maxHeartbeats 4000000 in
theorem ratCmp_c (gx gy:Nat) (nx ny:Bool) (vx vb vy vd:Value) (xs bs ys ds:List Int) (w:World) (hx:RT w gx nx vx xs vb bs) (hy:RT w gy ny vy ys vd ds) (zx:xs=[]→nx=false) (zy:ys=[]→ny=false) (bne:bs≠[]) (dne:ds≠[]) (lx:xs.length≤1000) (ly:ys.length≤1000) (lb:bs.length≤39) (ld:ds.length≤39) (hT:Thr w):
 Calls Tryz.prog 64 #[.pointer (some ⟨gx,0,none⟩), .pointer (some ⟨gy,0,none⟩)] w fun e w'=>e= .returned (.int .i64 (sgn (bval nx xs*leN ds-bval ny ys*leN bs)))∧Below w.heap.size w w':=by
 have HX:=Lib.hid (fun w' (h:Below w.heap.size w w')=>hx.below h)
 have HY:=Lib.hid (fun w' (h:Below w.heap.size w w')=>hy.below h)
 have HT:=Lib.hid (fun w' (h:Below w.heap.size w w')=>hT.below h)
 have hgx:gx<w.heap.size:=lt_of_cell hx.pa.c0
 have hgy:gy<w.heap.size:=lt_of_cell hy.pa.c0
 have dpos:0<leN ds:=by have:=leN_bd ds hy.wb;rcases Int.lt_or_le 0 (leN ds) with h|h;exact h;exact absurd (leN_nil_iff hy.wb hy.tb (by omega)) dne
 have bpos:0<leN bs:=by have:=leN_bd bs hx.wb;rcases Int.lt_or_le 0 (leN bs) with h|h;exact h;exact absurd (leN_nil_iff hx.wb hx.tb (by omega)) bne
 have HP:=Lib.hid (And.intro dpos (And.intro bpos (And.intro (And.intro hx.wa hx.ta) (And.intro hy.wa hy.ta))))
 have HWB:=Lib.hid (And.intro (And.intro hx.wb hx.tb) (And.intro hy.wb hy.tb))
 obtain⟨B1,kb,rfl,_⟩:=hx.sb.c
 obtain⟨B2,kd,rfl,_⟩:=hy.sb.c
 clear hx hy hT dpos bpos
 go_enter_defers Tryz.func64,Tryz.ntmps64
 go_upto_region 4 with(go_at_call 101;(with_reducible refine(getStack_c _).mono ?_);rintro e w1 ⟨rfl,hs1,hb1,hl1⟩;have HS:=Lib.hid (And.intro hs1 (And.intro hb1 hl1));clear hs1 hb1 hl1)
 have HQ:Hid (w1.heap[w.heap.size]?=some (.cells #[.bool false, .slice none 0 0] 196 (0,0))∧w1.heap[w.heap.size+1]?=some (.cells #[.bool false, .slice none 0 0] 196 (0,0))∧w1.cell? ⟨w.heap.size+1+1,0,none⟩=some (.pointer none)∧Below w.heap.size w w1∧w.heap.size+1+1<w1.heap.size):=by
  obtain⟨h1,h2,h3⟩:=HS.out
  have e2:((w.alloc (.cells #[.bool false, .slice none 0 0] 196)).alloc (.cells #[.bool false, .slice none 0 0] 196)).heap.size=w.heap.size+1+1:=by simp
  have q1:((w.alloc (.cells #[.bool false, .slice none 0 0] 196)).alloc (.cells #[.bool false, .slice none 0 0] 196)).heap[w.heap.size]?=some (.cells #[.bool false, .slice none 0 0] 196 (0,0)):=blk_alloc (blk_new _ _) _
  have q2:((w.alloc (.cells #[.bool false, .slice none 0 0] 196)).alloc (.cells #[.bool false, .slice none 0 0] 196)).heap[w.heap.size+1]?=some (.cells #[.bool false, .slice none 0 0] 196 (0,0)):=by simpa using blk_new (w.alloc (.cells #[.bool false, .slice none 0 0] 196)) (.cells #[.bool false, .slice none 0 0] 196)
  have lo:Below w.heap.size w ((w.alloc (.cells #[.bool false, .slice none 0 0] 196)).alloc (.cells #[.bool false, .slice none 0 0] 196)):=((Below.refl _ _).alloc (Nat.le_refl _) _).alloc (by simp) _
  rw[e2] at h1 h3
  exact Lib.hid ⟨blk_below q1 h2,blk_below q2 h2,h1,lo.trans (h2.mono (by rw[e2];omega)),h3⟩
 clear HS
 have d3:w1.cell? ⟨gy,3,none⟩=some (.slice B2 ds.length kd):=blk_cell (HY.out w1 HQ.out.2.2.2.1).blk 3 _ rfl
 have HS1:=Lib.hid (scaleDenom_c w.heap.size gx 0 nx vx (.slice B2 ds.length kd) xs ds (some ⟨w.heap.size+1+1,0,none⟩) w1.drew (HX.out _ HQ.out.2.2.2.1.drew).pa ((HY.out _ HQ.out.2.2.2.1.drew).sb.mono (Nat.zero_le _)) HWB.out.2.1 HWB.out.2.2 dne (by omega) lx (by omega) (Or.inr (by omega)) (HT.out _ HQ.out.2.2.2.1.drew) HQ.out.1)
 go_region_held3 (fun w'=>w'.cell? ⟨gy,3,none⟩=some (.slice B2 ds.length kd)) (first|exact d3|exact d3') (first|(go_at_call 103;(with_reducible refine HS1.out.mono ?_);rintro e w2 ⟨rfl,⟨u,zs,k1,k2,k3,k4,k5,k6⟩,hab,hb2⟩;have HA:=Lib.hid (And.intro k1 (And.intro k2 (And.intro k3 (And.intro k4 (And.intro k5 k6)))));have HAB:=Lib.hid hab;have HL2:=Lib.hid (HQ.out.2.2.2.1.drew.trans hb2);have d3':=blk_cell (HY.out w2 HL2.out).blk 3 _ rfl;clear k1 k2 k3 k4 k5 k6 hab hb2))
 go_upto_region 5 with fail
 have e3:w2.cell? ⟨gx,3,none⟩=some (.slice B1 bs.length kb):=blk_cell (HX.out w2 HL2.out).blk 3 _ rfl
 have hs3:w.heap.size+1+1<w1.heap.size:=HQ.out.2.2.2.2
 have hb2:w2.heap[w.heap.size+1]?=some (.cells #[.bool false, .slice none 0 0] 196 (0,0)):=(HAB.out.1 (w.heap.size+1) (by show _<w1.heap.size;omega) (by omega)).trans HQ.out.2.1
 have hst:w2.cell? ⟨w.heap.size+1+1,0,none⟩=some (.pointer none):=(cell_heap (HAB.out.1 (w.heap.size+1+1) (by show _<w1.heap.size;omega) (by omega)) 0).trans HQ.out.2.2.1
 have hsz2:w1.heap.size≤w2.heap.size:=HAB.out.2
 have HST:=Lib.hid hst
 have HS2:=Lib.hid (scaleDenom_c (w.heap.size+1) gy 0 ny vy (.slice B1 bs.length kb) ys bs (some ⟨w.heap.size+1+1,0,none⟩) w2.drew (HY.out _ HL2.out.drew).pa ((HX.out _ HL2.out.drew).sb.mono (Nat.zero_le _)) HWB.out.1.1 HWB.out.1.2 bne (by omega) ly (by omega) (Or.inr (by omega)) (HT.out _ HL2.out.drew) hb2)
 clear d3 hst hb2 HS1
 go_region_held3 (fun w'=>w'.cell? ⟨gx,3,none⟩=some (.slice B1 bs.length kb)) (first|exact e3|exact e3') (first|(go_at_call 103;(with_reducible refine HS2.out.mono ?_);rintro e w3 ⟨rfl,⟨u2,zs2,k1,k2,k3,k4,k5,k6⟩,hab,hb2⟩;have HA2:=Lib.hid (And.intro k1 (And.intro k2 (And.intro k3 (And.intro k4 (And.intro k5 k6)))));have HAB2:=Lib.hid hab;have HL3:=Lib.hid (HL2.out.drew.trans (hb2.mono (Nat.le_succ _)));have e3':=blk_cell (HX.out w3 HL3.out).blk 3 _ rfl;clear k1 k2 k3 k4 k5 k6 hab hb2))
 have hsz3:w2.heap.size≤w3.heap.size:=HAB2.out.2
 have HPA:Hid (PI w3 w.heap.size 0 nx u zs):=Lib.hid ⟨⟨_,_,(HAB2.out.1 w.heap.size (by show _<w2.heap.size;omega) (by omega)).trans HA.out.1,rfl,rfl⟩,(HA.out.2.1.but (show AllBut (w.heap.size+1) w2 w3 from HAB2.out) (by show w.heap.size+1<w1.heap.size;omega)).mono (Nat.zero_le _),HA.out.2.2.1,HA.out.2.2.2.1⟩
 have HPB:Hid (PI w3 (w.heap.size+1) 0 ny u2 zs2):=Lib.hid ⟨⟨_,_,HA2.out.1,rfl,rfl⟩,HA2.out.2.1.mono (Nat.zero_le _),HA2.out.2.2.1,HA2.out.2.2.2.1⟩
 have hst3:w3.cell? ⟨w.heap.size+1+1,0,none⟩=some (.pointer none):=(cell_heap (HAB2.out.1 (w.heap.size+1+1) (by show _<w2.heap.size;omega) (by omega)) 0).trans HST.out
 have HST3:=Lib.hid hst3
 have HZ1:Hid (zs=[]→nx=false):=Lib.hid fun e=>by
  have h:=HA.out.2.2.2.2.1
  rw[e,leN_nil] at h
  have h2:=leN_bd xs HP.out.2.2.1.1
  have:leN xs=0:=by
   rcases Int.mul_eq_zero.1 h.symm with h3|h3
   ·exact h3
   ·have:=HP.out.1;omega
  exact zx (leN_nil_iff HP.out.2.2.1.1 HP.out.2.2.1.2 this)
 have HZ2:Hid (zs2=[]→ny=false):=Lib.hid fun e=>by
  have h:=HA2.out.2.2.2.2.1
  rw[e,leN_nil] at h
  have:leN ys=0:=by
   rcases Int.mul_eq_zero.1 h.symm with h3|h3
   ·exact h3
   ·have:=HP.out.2.1;omega
  exact zy (leN_nil_iff HP.out.2.2.2.1 HP.out.2.2.2.2 this)
 have HC:=Lib.hid (intCmp_c w.heap.size 0 (w.heap.size+1) 0 nx ny u u2 zs zs2 w3 HPA.out HPB.out (by omega) (by have:=HA.out.2.2.2.2.2;omega) (by have:=HA2.out.2.2.2.2.2;omega) HZ1.out HZ2.out)
 rw[bval_mul nx xs zs _ HA.out.2.2.2.2.1,bval_mul ny ys zs2 _ HA2.out.2.2.2.2.1] at HC
 obtain⟨rr,hrr⟩: ∃rr,sgn (bval nx xs*leN ds-bval ny ys*leN bs)=rr:=⟨_,rfl⟩
 rw[hrr] at HC
 have HRR:=Lib.hid hrr
 clear hrr
 clear hst3 e3 d3' e3' HS2
 go_wp2_with (go_at_call 104;(with_reducible refine HC.out.mono ?_);rintro e w4 ⟨rfl,n,rfl⟩)
 refine leaves_cons (f:=102) (args:=#[.pointer (some ⟨w.heap.size+1+1,0,none⟩)]) (by simp) (by simp[go_sem]) ?_
 refine(free_deferred (w.heap.size+1+1) .returning (w3.drewN n) HST3.out).mono ?_
 rintro e u' w'' ⟨rfl,rfl,rfl⟩
 exact⟨_,results_tmp rfl _ _ _,(by rw[HRR.out];rfl),pw_below_drewN HL3.out _⟩
theorem few_words (n:Bool) (zs:List Int) (x:Int) (hw:Words zs) (ht:Top zs) (hv:bval n zs=x) (hx:x.natAbs<256^60):zs.length≤8:=by
 rcases Nat.lt_or_ge 8 zs.length with hlt|hge
 ·exfalso
  have hne:zs≠[]:=by rintro rfl;simp at hlt
  have h1:=leN_top zs hw ht hne
  have h2:=(leN_bd zs hw).1
  have h4:(18446744073709551616:Int)^8≤18446744073709551616^(zs.length-1):=by
   obtain⟨c,hc⟩: ∃c,zs.length-1=8+c:=⟨zs.length-1-8,by omega⟩
   rw[hc,Int.pow_add]
   have h5:=wpos c
   have:(18446744073709551616:Int)^8*1≤18446744073709551616^8*18446744073709551616^c:=Int.mul_le_mul_of_nonneg_left (by omega) (by decide)
   omega
  have h6:(18446744073709551616:Int)^8≤leN zs:=Int.le_trans h4 h1
  have h7:leN zs=x.natAbs:=by
   rw[←hv];unfold bval;cases n<;>simp<;>omega
  have h8:(256:Nat)^60≤18446744073709551616^8:=by decide
  have h9:((18446744073709551616^8:Nat):Int)=(18446744073709551616:Int)^8:=by decide
  omega
 ·exact hge
def RatX (w:World) (x:Int) (e:Ending) (w':World):Prop:=
 ∃g na va xs vb,w.heap.size≤g∧e= .returned (.pointer (some ⟨g,0,none⟩))∧RT w' g na va xs vb [1]∧(xs=[]→na=false)∧bval na xs=x∧xs.length≤1000∧Below w.heap.size w w'
theorem ratX_of {w0 w:World} {x:Int} {e:Ending} {w':World} (hb:Below w0.heap.size w0 w) (h:RatI (w.alloc (.cells #[.bool false, .slice none 0 0, .bool false, .slice none 0 0] 198)) w.heap.size x e w'):RatX w0 x e w':=by
 obtain⟨he,⟨na,va,xs,vb,h1,h2,h3,h4⟩,h5⟩:=h
 exact⟨w.heap.size,na,va,xs,vb,hb.size,he,h1,h2,h3,h4,((hb.alloc hb.size _)).trans (h5.mono hb.size)⟩
set_option maxRecDepth 100000 in
theorem irational_c (B:Nat) (u:Value) (x:Int) (w:World) (h:SIv B w u x) (hx:x.natAbs<256^60):
 Calls Tryz.prog 63 #[u] w (RatX w x):=by
 have HF:=Lib.hid (fun n zs hw ht hv=>few_words n zs x hw ht hv hx)
 clear hx
 rcases h with⟨hs,rfl⟩|⟨hs,g,neg,v,zs,rfl,hg,hb,hv,hl⟩
 ·have hr: -9223372036854775807≤x∧x≤9223372036854775807:=by unfold sml at hs;simp at hs;omega
  have HR:=Lib.hid (fun(w':World)=>ratSetInt64_c w'.heap.size x (w'.alloc (.cells #[.bool false, .slice none 0 0, .bool false, .slice none 0 0] 198)) hr (blk_new _ _))
  have HE:=Lib.hid (fun w1 hb1 e w' hw=>ratX_of (w0:=w) (w:=w1) (x:=x) (e:=e) (w':=w') hb1 hw)
  clear hs hr HF
  go_enter Tryz.func63,Tryz.ntmps63
  go_wp2_with (first
   |(go_at_call 98;(with_reducible refine(get_c _ _ _).mono ?_);rintro e w1 ⟨rfl,hb1⟩;have HB:=Lib.hid (((Below.refl _ w).alloc (Nat.le_refl _) _).trans (hb1.mono (by simp)));clear hb1)
   |(go_at_call 100;(with_reducible refine(HR.out _).mono ?_);intro e w2 hw2;replace HE:=Lib.hid (HE.out _ HB.out _ _ hw2);obtain⟨rfl,_⟩:=hw2))
  go_ret
  exact HE.out
 ·have hzs:=HF.out neg zs hb.words hb.top hv
  have hne:zs≠[]:=by
   rintro rfl
   rw[show x=0 by rw[←hv];unfold bval;cases neg<;>rfl] at hs
   cases hs
  subst hv
  have HP:Hid (∀w1,Below w.heap.size w w1→PI (w1.alloc (.cells #[.bool false, .slice none 0 0, .bool false, .slice none 0 0] 198)) g 0 neg v zs∧w1.heap.size≠g):=Lib.hid fun w1 h1=>by
   have h2:=hb.below (h1.alloc h1.size (.cells #[.bool false, .slice none 0 0, .bool false, .slice none 0 0] 198))
   refine⟨⟨⟨_,_,h2.blk,rfl,rfl⟩,h2.sl.mono (Nat.zero_le _),h2.words,h2.top⟩,?_⟩
   have:=h1.size;have:=lt_blk hb.blk;omega
  have HR:=Lib.hid (fun(w':World) h1=>ratSetInt_c w'.heap.size g neg v zs (w'.alloc (.cells #[.bool false, .slice none 0 0, .bool false, .slice none 0 0] 198)) (HP.out w' h1).1 hne (by omega) (HP.out w' h1).2 (blk_new _ _))
  have HE:=Lib.hid (fun w1 hb1 e w' hw=>ratX_of (w0:=w) (w:=w1) (x:=bval neg zs) (e:=e) (w':=w') hb1 hw)
  have hlt:=lt_blk hb.blk
  clear hs HF hzs hne hb hl
  go_enter Tryz.func63,Tryz.ntmps63
  go_wp2_with (first
   |(go_at_call 98;(with_reducible refine(get_c _ _ _).mono ?_);rintro e w1 ⟨rfl,hb1⟩;have HB:=Lib.hid (((Below.refl _ w).alloc (Nat.le_refl _) _).trans (hb1.mono (by simp)));clear hb1)
   |(go_at_call 99;(with_reducible refine(HR.out _ HB.out).mono ?_);intro e w2 hw2;replace HE:=Lib.hid (HE.out _ HB.out _ _ hw2);obtain⟨rfl,_⟩:=hw2))
  go_ret
  exact HE.out
def RatY (w:World) (s:Bool) (m:Nat) (p:Int) (e:Ending) (w':World):Prop:=
 ∃g na va xs vb ys,w.heap.size≤g∧e= .returned (.pointer (some ⟨g,0,none⟩))∧RT w' g na va xs vb ys∧(xs=[]→na=false)∧bval na xs*2^(-p).toNat=smag s m*2^p.toNat*leN ys∧0<leN ys∧xs.length≤39∧ys.length≤39∧ys≠[]∧Below w.heap.size w w'∧(0≤p→ys=[1])
set_option maxRecDepth 100000 in
theorem frational_c (b:Nat) (w:World) (hb:b<18446744073709551616) (s:Bool) (m:Nat) (p:Int) (hd:fdat b= .number s m p):
 Calls Tryz.prog 65 #[.float .f64 b] w (RatY w s m p):=by
 have HR:=Lib.hid (setFloat64_c w.heap.size b (w.alloc (.cells #[.bool false, .slice none 0 0, .bool false, .slice none 0 0] 198)) hb s m p hd (blk_new _ _))
 have HE:Hid (∀e w',RatF (w.alloc (.cells #[.bool false, .slice none 0 0, .bool false, .slice none 0 0] 198)) w.heap.size s m p e w'→RatY w s m p e w'):=Lib.hid fun e w' h=>by
  obtain⟨he,⟨na,va,xs,vb,ys,h1,h2,h3,h4,h5,h6,h7,h9⟩,h8⟩:=h
  exact⟨w.heap.size,na,va,xs,vb,ys,Nat.le_refl _,he,h1,h2,h3,h4,h5,h6,h7,((Below.refl _ w).alloc (Nat.le_refl _) _).trans h8,h9⟩
 clear hb hd
 go_enter Tryz.func65,Tryz.ntmps65
 go_wp2_with (go_at_call 105;(with_reducible refine HR.out.mono ?_);intro e w2 hw2;replace HE:=Lib.hid (HE.out _ _ hw2);obtain⟨rfl,_⟩:=hw2)
 go_ret
 exact HE.out
theorem b2i_c (b:Bool) (w:World):Calls Tryz.prog 354 #[.bool b] w fun e w'=>e= .returned (.int .i64 (if b then 1 else 0))∧w'=w:=by
 cases b
 all_goals
  go_enter Tryz.func354,Tryz.ntmps354
  go_wp2
  go_ret
  exact⟨rfl,rfl⟩
def tw (op c:Int):Bool:=if op=37 then c==0 else if op=38 then c !=0 else if op=36 then decide (c≤0) else if op=33 then decide (c<0) else if op=35 then decide (0≤c) else decide (0<c)
def OpOk (op:Int):Prop:=op=37∨op=38∨op=36∨op=33∨op=35∨op=34
set_option maxRecDepth 100000 in
theorem threeway_c (op c:Int) (w:World) (h:OpOk op) (hc:c= -1∨c=0∨c=1):Calls Tryz.prog 61 #[.int .i8 op, .int .i64 c] w fun e w'=>e= .returned (.bool (tw op c))∧w'=w:=by
 unfold OpOk at h
 rcases h with rfl|rfl|rfl|rfl|rfl|rfl
 all_goals
  rcases hc with rfl|rfl|rfl
  all_goals
   go_enter Tryz.func61,Tryz.ntmps61
   go_wp2
   go_ret
   exact⟨rfl,rfl⟩
theorem ord_three (a b:Nat):(f64ord a b=none→(fdat a).isNaN=true∨(fdat b).isNaN=true)∧((fdat a).isNaN=true→f64ord a b=none∧f64ord a a=none)∧((fdat b).isNaN=true→f64ord a b=none∧f64ord b b=none)∧((fdat a).isNaN=false→f64ord a a=some .eq)∧((fdat b).isNaN=false→f64ord b b=some .eq):=by
 refine⟨?_,?_,?_,?_,?_⟩
 ·intro h
  rw[ord_dat] at h
  cases ha:fdat a<;>cases hb:fdat b<;>rw[ha,hb] at h<;>simp[Ieee.Datum.order,Ieee.Datum.isNaN] at h⊢
 ·intro h
  rw[ord_dat,ord_dat]
  cases h2:fdat a<;>simp[h2,Ieee.Datum.isNaN] at h
  exact⟨rfl,rfl⟩
 ·intro h
  rw[ord_dat,ord_dat]
  cases h2:fdat b<;>simp[h2,Ieee.Datum.isNaN] at h
  refine⟨?_,rfl⟩
  cases fdat a<;>rfl
 ·intro h;have:=ord_self a;rw[h] at this;simpa using this
 ·intro h;have:=ord_self b;rw[h] at this;simpa using this
set_option maxRecDepth 100000 in
theorem floatCmp_c (a b:Nat) (w:World):Calls Tryz.prog 335 #[.float .f64 a, .float .f64 b] w fun e w'=>e= .returned (.int .i64 (fcmpF a b))∧w'=w:=by
 obtain⟨h0,h1,h2,h3,h4⟩:=ord_three a b
 have HF:Hid (fcmpF a b=fcmpO (f64ord a b) (fdat a).isNaN (fdat b).isNaN):=Lib.hid rfl
 obtain⟨o,ho⟩: ∃o,f64ord a b=o:=⟨_,rfl⟩
 obtain⟨oa,hoa⟩: ∃o,f64ord a a=o:=⟨_,rfl⟩
 obtain⟨ob,hob⟩: ∃o,f64ord b b=o:=⟨_,rfl⟩
 obtain⟨p,hp⟩: ∃p,(fdat a).isNaN=p:=⟨_,rfl⟩
 obtain⟨q,hq⟩: ∃q,(fdat b).isNaN=q:=⟨_,rfl⟩
 have hod:FloatKind.f64.format.order a b=o:=ho
 have hoda:FloatKind.f64.format.order a a=oa:=hoa
 have hodb:FloatKind.f64.format.order b b=ob:=hob
 rw[ho,hp,hq] at HF
 rw[ho,hp,hq] at h0
 rw[ho,hp,hoa] at h1
 rw[ho,hq,hob] at h2
 rw[hp,hoa] at h3
 rw[hq,hob] at h4
 rw[HF.out]
 clear HF ho hoa hob hp hq
 cases p<;>cases q
 all_goals
  simp at h0 h1 h2 h3 h4
 ·subst h3 h4
  rcases o with _|o
  ·exact absurd rfl h0
  ·clear h0
   cases o
   all_goals
    go_enter Tryz.func335,Tryz.ntmps335
    go_wp2
    go_ret
    exact⟨rfl,rfl⟩
 ·obtain⟨rfl,rfl⟩:=h2
  subst h3
  go_enter Tryz.func335,Tryz.ntmps335
  go_wp2
  go_ret
  exact⟨rfl,rfl⟩
 ·obtain⟨rfl,rfl⟩:=h1
  subst h4
  go_enter Tryz.func335,Tryz.ntmps335
  go_wp2
  go_ret
  exact⟨rfl,rfl⟩
 ·obtain⟨rfl,rfl⟩:=h1
  obtain⟨_,rfl⟩:=h2
  go_enter Tryz.func335,Tryz.ntmps335
  go_wp2
  go_ret
  exact⟨rfl,rfl⟩
theorem call_cmpstring (a b:ByteArray) (w:World):(callFunc 368 #[.string a, .string b]).run Tryz.prog w= .ok (.value (.int .i64 (Lib.compareBytes a.data.toList b.data.toList))) w:=by
 rw[run_callFunc_extern (e:=Extern.BytealgCompare.compare) Tryz.func368 (by kernel_rfl) (by kernel_rfl) (by kernel_rfl) (by kernel_rfl) _ w,Lib.run_compareString]
 rfl
theorem compareString_c (a b:ByteArray) (w:World):Calls Tryz.prog 366 #[.string a, .string b] w fun e w'=>e= .returned (.int .i64 (Lib.compareBytes a.data.toList b.data.toList))∧w'=w:=by
 have hc:=call_cmpstring
 go_enter Tryz.func366,Tryz.ntmps366
 go_wp2
 go_ret
 exact⟨rfl,rfl⟩
theorem stringsCompare_c (a b:ByteArray) (w:World):Calls Tryz.prog 364 #[.string a, .string b] w fun e w'=>e= .returned (.int .i64 (Lib.compareBytes a.data.toList b.data.toList))∧w'=w:=by
 go_enter Tryz.func364,Tryz.ntmps364
 go_wp2_with (go_at_call 366;refine(compareString_c _ _ _).mono ?_;rintro e w' ⟨rfl,rfl⟩)
 go_ret
 exact⟨rfl,rfl⟩
theorem signum_plain (x:Int) (hx: -9223372036854775808<x∧x<9223372036854775808):wrap64 (bits BinOp.or IntKind.u64 (IntKind.u64.wrap (x/9223372036854775808)) (IntKind.u64.wrap (-x)/9223372036854775808))=sgn x:=by
 have hw: ∀z:Int,IntKind.u64.wrap z=z%18446744073709551616:=fun z=>by simp[IntKind.wrap,IntKind.signed,IntKind.bits]
 have k1:wrap64 (bits BinOp.or IntKind.u64 18446744073709551615 0)= -1:=by kernel_rfl
 have k2:wrap64 (bits BinOp.or IntKind.u64 0 0)=0:=by kernel_rfl
 have k3:wrap64 (bits BinOp.or IntKind.u64 0 1)=1:=by kernel_rfl
 rw[hw,hw]
 rcases Int.lt_trichotomy x 0 with h|h|h
 ·rw[show x/9223372036854775808= -1 by omega,show-x%18446744073709551616/9223372036854775808=0 by omega,sgn_of_neg h];exact k1
 ·subst h;exact k2
 ·rw[show x/9223372036854775808=0 by omega,show-x%18446744073709551616/9223372036854775808=1 by omega,sgn_of_pos h];exact k3
set_option maxRecDepth 100000 in
theorem signum64_c (x:Int) (w:World) (hx: -9223372036854775808<x∧x<9223372036854775808):Calls Tryz.prog 286 #[.int .i64 x] w fun e w'=>e= .returned (.int .i64 (sgn x))∧w'=w:=by
 go_enter Tryz.func286,Tryz.ntmps286
 go_wp2
 go_ret
 exact⟨congrArg (fun z=>Ending.returned (.int .i64 z)) (signum_plain x hx),rfl⟩
def NewI (w:World) (x:Int) (e:Ending) (w':World):Prop:=
 ∃g n v zs,w.heap.size≤g∧e= .returned (.pointer (some ⟨g,0,none⟩))∧PI w' g 0 n v zs∧(zs=[]→n=false)∧bval n zs=x∧zs.length≤1∧Below w.heap.size w w'
theorem irow_oneB (w:World) (x:Int) (t:TypeId):IRow .u64 (w.alloc (.cells #[.int .u64 x] t)) w.heap.size [x]:=by
 have hb:=blk_new w (.cells #[.int .u64 x] t)
 refine⟨fun i hi=>?_,fun i hi=>?_⟩
 ·simp at hi;subst hi;exact blk_cell hb 0 _ rfl
 ·simp at hi;subst hi;exact blk_free hb 0
theorem newI_of (w:World) (x y:Int) (n:Bool) (t:TypeId) (hy:0<y∧y<18446744073709551616) (hx:x=if n then-y else y):NewI w x (.returned (.pointer (some ⟨w.heap.size+1,0,none⟩))) ((w.alloc (.cells #[.int .u64 y] t)).alloc (.cells #[.bool n, .slice (some ⟨w.heap.size,0,none⟩) 1 1] 196)):=by
 have h1:=(irow_oneB w y t).sl' (by simp) (c:=1) (by simp) (by simp)
 refine⟨w.heap.size+1,n,_,[y],by omega,rfl,⟨⟨_,_,by simpa using blk_new (w.alloc (.cells #[.int .u64 y] t)) (.cells #[.bool n, .slice (some ⟨w.heap.size,0,none⟩) 1 1] 196),rfl,rfl⟩,((show Sl .u64 w.heap.size (w.alloc (.cells #[.int .u64 y] t)) (.slice (some ⟨w.heap.size,0,none⟩) 1 1) [y] by simpa using h1).mono (Nat.zero_le _)).alloc _,?_,?_⟩,(fun h=>by cases h),?_,by simp,((Below.refl _ w).alloc (Nat.le_refl _) _).alloc (by simp) _⟩
 ·intro z hz;rw[List.mem_singleton] at hz;omega
 ·intro _;simp;omega
 ·rw[hx];unfold bval;cases n<;>simp[leN]
set_option maxRecDepth 100000 in
theorem newInt_c (x:Int) (w:World) (hs:sml x=true):Calls Tryz.prog 144 #[.int .i64 x] w (NewI w x):=by
  unfold sml at hs
  simp at hs
  rcases Int.lt_trichotomy x 0 with h|h|h
  · have e1:IntKind.u64.wrap (-IntKind.u64.wrap x)= -x:=by
      have hw: ∀z:Int,IntKind.u64.wrap z=z%18446744073709551616:=fun z=>by simp[IntKind.wrap,IntKind.signed,IntKind.bits]
      rw[hw,hw];omega
    have HE:=Lib.hid (newI_of w x (-x) true)
    go_enter Tryz.func144,Tryz.ntmps144
    go_wp2
    go_ret
    exact HE.out _ (by omega) (by simp)
  · subst h
    go_enter Tryz.func144,Tryz.ntmps144
    go_wp2
    go_ret
    exact⟨w.heap.size,false,_,[],Nat.le_refl _,rfl,⟨⟨_,_,blk_new _ _,rfl,rfl⟩,Sl.nil,(fun _ h=>by cases h),fun h=>absurd rfl h⟩,(fun _=>rfl),rfl,by simp,(Below.refl _ w).alloc (Nat.le_refl _) _⟩
  · have e2:decide (x<0)=false:=by simp;omega
    have HE:=Lib.hid (newI_of w x x false)
    go_enter Tryz.func144,Tryz.ntmps144
    go_wp2
    go_ret
    exact HE.out _ (by omega) (by simp)
def BigI (B:Nat) (w:World) (u:Value) (x:Int) (e:Ending) (w':World):Prop:=
 ∃g n v zs,e= .returned (.pointer (some ⟨g,0,none⟩))∧PI w' g 0 n v zs∧(zs=[]→n=false)∧bval n zs=x∧zs.length≤1000000∧Below w.heap.size w w'∧(w.heap.size≤g∨u= .agg #[.int .i64 0, .pointer (some ⟨g,0,none⟩)])
set_option maxRecDepth 100000 in
theorem bigInt_c (B:Nat) (u:Value) (x:Int) (w:World) (h:SIv B w u x) (hx:x.natAbs<256^60):
 Calls Tryz.prog 327 #[u] w (BigI B w u x):=by
 have HF:=Lib.hid (fun n zs hw ht hv=>few_words n zs x hw ht hv hx)
 clear hx
 rcases h with⟨hs,rfl⟩|⟨hs,g,neg,v,zs,rfl,hg,hb,hv,hl⟩
 ·have HR:=Lib.hid (fun w':World=>newInt_c x w' hs)
  clear hs HF
  go_enter Tryz.func327,Tryz.ntmps327
  go_wp2_with (first
   |(go_at_call 98;(with_reducible refine(get_c _ _ _).mono ?_);rintro e w1 ⟨rfl,hb1⟩;have HB:=Lib.hid (((Below.refl _ w).alloc (Nat.le_refl _) _).trans (hb1.mono (by simp)));clear hb1)
   |(go_at_call 144;(with_reducible refine(HR.out _).mono ?_);rintro e w2 ⟨g,n,v,zs,h1,rfl,h2,h3,h4,h5,h6⟩;have HE:=Lib.hid (And.intro h1 (And.intro h2 (And.intro h3 (And.intro h4 (And.intro h5 h6)))));clear h1 h2 h3 h4 h5 h6))
  go_ret
  obtain⟨h1,h2,h3,h4,h5,h6⟩:=HE.out
  exact⟨g,n,v,zs,rfl,h2,h3,h4,by omega,HB.out.trans (h6.mono HB.out.size),Or.inl (Nat.le_trans HB.out.size h1)⟩
 ·have hzs:=HF.out neg zs hb.words hb.top hv
  have hne:zs≠[]:=by
   rintro rfl
   rw[show x=0 by rw[←hv];unfold bval;cases neg<;>rfl] at hs
   cases hs
  have HP:Hid (∀w1,Below w.heap.size w w1→PI w1 g 0 neg v zs):=Lib.hid fun w1 h1=>by
   have h2:=hb.below h1
   exact⟨⟨_,_,h2.blk,rfl,rfl⟩,h2.sl.mono (Nat.zero_le _),h2.words,h2.top⟩
  have hlt:=lt_blk hb.blk
  have HQ:=Lib.hid (And.intro hzs (And.intro hne hv))
  clear hs HF hzs hne hb hl hv
  go_enter Tryz.func327,Tryz.ntmps327
  go_wp2_with (go_at_call 98;(with_reducible refine(get_c _ _ _).mono ?_);rintro e w1 ⟨rfl,hb1⟩;have HB:=Lib.hid (((Below.refl _ w).alloc (Nat.le_refl _) _).trans (hb1.mono (by simp)));clear hb1)
  go_ret
  exact⟨g,neg,v,zs,rfl,HP.out _ HB.out,fun h=>absurd h HQ.out.2.1,HQ.out.2.2,by have:=HQ.out.1;omega,HB.out,Or.inr rfl⟩
theorem assertInt1 (v:Value) (w:World):(Instr.typeAssert (.iface 122 v) 57 122 false).run Tryz.prog w= .ok v w:=by kernel_rfl
theorem assertFloat1 (v:Value) (w:World):(Instr.typeAssert (.iface 123 v) 57 123 false).run Tryz.prog w= .ok v w:=by kernel_rfl
theorem assertBool1 (v:Value) (w:World):(Instr.typeAssert (.iface 138 v) 57 138 false).run Tryz.prog w= .ok v w:=by kernel_rfl
theorem assertBytes1 (v:Value) (w:World):(Instr.typeAssert (.iface 142 v) 57 142 false).run Tryz.prog w= .ok v w:=by kernel_rfl
theorem assertString1 (v:Value) (w:World):(Instr.typeAssert (.iface 141 v) 57 141 false).run Tryz.prog w= .ok v w:=by kernel_rfl
set_option maxRecDepth 100000 in
theorem floatCmpM_c (a b:Nat) (d:Int) (w:World):Calls Tryz.prog 329 #[.float .f64 a, .iface 123 (.float .f64 b), .int .i64 d] w fun e w'=>e= .returned (.tuple #[.int .i64 (fcmpF a b), .nilIface])∧w'=w:=by
 have hta:=assertFloat1
 go_enter Tryz.func329,Tryz.ntmps329
 go_wp2_with (go_at_call 335;refine(floatCmp_c _ _ _).mono ?_;rintro e w1 ⟨rfl,rfl⟩)
 go_ret2
 exact⟨rfl,rfl⟩
set_option maxRecDepth 100000 in
theorem boolSame_c (op:Int) (a b:Bool) (d:Int) (w:World) (ho:OpOk op):Calls Tryz.prog 348 #[.bool a, .int .i8 op, .iface 138 (.bool b), .int .i64 d] w fun e w'=>e= .returned (.tuple #[.bool (tw op ((if a then 1 else 0)-(if b then 1 else 0))), .nilIface])∧w'=w:=by
 have hta:=assertBool1
 have HT:=Lib.hid (fun c w=>threeway_c op c w ho)
 clear ho
 cases a<;>cases b
 all_goals
  go_enter Tryz.func348,Tryz.ntmps348
  go_wp2_with (first
   |(go_at_call 354;refine(b2i_c _ _).mono ?_;rintro e w1 ⟨rfl,rfl⟩)
   |(go_at_call 61;refine(HT.out _ _ (by decide)).mono ?_;rintro e w1 ⟨rfl,rfl⟩))
  go_ret2
  exact⟨rfl,rfl⟩
theorem compare_vals (a b:List UInt8):Lib.compareBytes a b= -1∨Lib.compareBytes a b=0∨Lib.compareBytes a b=1:=by
 induction a generalizing b with
 |nil=>cases b<;>simp[Lib.compareBytes]
 |cons x l ih=>cases b with
  |nil=>simp[Lib.compareBytes]
  |cons y m=>unfold Lib.compareBytes;split<;>(try split)<;>simp[ih]
set_option maxRecDepth 100000 in
theorem bytesSame_c (op:Int) (a b:ByteArray) (d:Int) (w:World) (ho:OpOk op):Calls Tryz.prog 369 #[.string a, .int .i8 op, .iface 142 (.string b), .int .i64 d] w fun e w'=>e= .returned (.tuple #[.bool (tw op (Lib.compareBytes a.data.toList b.data.toList)), .nilIface])∧w'=w:=by
 have hta:=assertBytes1
 have HT:=Lib.hid (fun c w=>threeway_c op c w ho)
 have HV:=Lib.hid (compare_vals a.data.toList b.data.toList)
 clear ho
 go_enter Tryz.func369,Tryz.ntmps369
 go_wp2_with (first
  |(go_at_call 364;refine(stringsCompare_c _ _ _).mono ?_;rintro e w1 ⟨rfl,rfl⟩)
  |(go_at_call 61;refine(HT.out _ _ HV.out).mono ?_;rintro e w1 ⟨rfl,rfl⟩))
 go_ret2
 exact⟨rfl,rfl⟩
set_option maxRecDepth 100000 in
theorem stringSame_c (op:Int) (a b:ByteArray) (d:Int) (w:World) (ho:OpOk op):Calls Tryz.prog 355 #[.string a, .int .i8 op, .iface 141 (.string b), .int .i64 d] w fun e w'=>e= .returned (.tuple #[.bool (tw op (Lib.compareBytes a.data.toList b.data.toList)), .nilIface])∧w'=w:=by
 have hta:=assertString1
 have HT:=Lib.hid (fun c w=>threeway_c op c w ho)
 have HV:=Lib.hid (compare_vals a.data.toList b.data.toList)
 clear ho
 go_enter Tryz.func355,Tryz.ntmps355
 go_wp2_with (first
  |(go_at_call 364;refine(stringsCompare_c _ _ _).mono ?_;rintro e w1 ⟨rfl,rfl⟩)
  |(go_at_call 61;refine(HT.out _ _ HV.out).mono ?_;rintro e w1 ⟨rfl,rfl⟩))
 go_ret2
 exact⟨rfl,rfl⟩
end Go.Proofs.YtkplnbjgkhmbcaaGreatDoor
