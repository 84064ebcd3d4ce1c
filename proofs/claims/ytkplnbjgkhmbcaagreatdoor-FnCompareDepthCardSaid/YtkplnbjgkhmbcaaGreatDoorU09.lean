/- ImpA NumBytes ListV ImpB ImpC ImpD ImpE ImpF ImpG ImpH -/
import Derived.Test.YtkplnbjgkhmbcaaGreatDoorU08
import Derived.Test.YtkplnbjgkhmbcaaGreatDoorU03
import Derived.Test.YtkplnbjgkhmbcaaGreatDoorU01
import Derived.ArgAppend
import Derived.Laws.MakeOwn
import Derived.LoopTactic
import Derived.OwnWalk
import Derived.Stop.IfaceNil
namespace Go.Proofs.YtkplnbjgkhmbcaaGreatDoor
open Go.RowKit Go.Shelf Go.Proofs.YtkplnbjgkhmbcaaGreatDoorW.PrintWords Go.Proofs.YtkplnbjgkhmbcaaGreatDoorW.PrintLast Go.Proofs.YtkplnbjgkhmbcaaGreatDoorW.PrintMore Go.Proofs.YtkplnbjgkhmbcaaGreatDoor.PFnCompare Go.Proofs.YtkplnbjgkhmbcaaGreatDoor.PCmp Go.Proofs.YtkplnbjgkhmbcaaGreatDoor.PbytesOf
set_option linter.unusedVariables false
set_option linter.unusedSimpArgs false
theorem floatOf_c (n:Int) (w:World):Calls Tryz.prog 92 #[.int .u64 n] w fun e w'=>e= .returned (.float .f64 n.toNat)∧w'=w:=by
 have k:=call_float
 go_enter Tryz.func92,Tryz.ntmps92
 go_wp2
 go_ret
 exact⟨rfl,rfl⟩
def scaOf (x:VT):Option Sca:=
 if x.f0=0 then some .none
 else if x.f0=1 then(if x.f3≤1 then some (.bool (x.f3==1)) else none)
 else if x.f0=2 then some (.int (val x.f1 x.f2))
 else if x.f0=3 then some (.float x.f3.toNat)
 else if x.f0=4 then some (.str x.f4)
 else if x.f0=5 then some (.bytes x.f4)
 else none
def ScaR (B:Nat) (o:Option Sca) (e:Ending) (w':World):Prop:=
 match o with
 |some s=> ∃v,e= .returned (.tuple #[v, .bool true])∧ScaV B w' v s
 |none=> ∃v,e= .returned (.tuple #[v, .bool false])
set_option maxRecDepth 100000 in
theorem scalar_c (x:VT) (v:Value) (w:World) (h:VR w v x) (hl:Leaf x):
 Calls Tryz.prog 54 #[.int .i64 x.f0,v] w fun e w'=>ScaR w.heap.size (scaOf x) e w'∧Below w.heap.size w w':=by
 obtain⟨A2,c2,A5,c5,rfl,g2,g2c,g5,_⟩:=h.open
 have hsl:=c_sl g2c g2
 have hk:=hl.kind
 have hb:=hl.bits
 have hm:=hl.mag
 clear h g2c hl
 have HB0:Hid (Below w.heap.size w (w.alloc (.cells #[.int .i64 x.f0, .bool x.f1, .slice A2 x.f2.length c2, .int .u64 x.f3, .string x.f4, .slice A5 x.f5.length c5] 26))):=Lib.hid ((Below.refl _ w).alloc (Nat.le_refl _) _)
 by_cases k0:x.f0=0
 ·have hs:scaOf x=some .none:=by unfold scaOf;rw[if_pos k0]
  rw[hs,k0]
  rw[k0] at HB0
  go_enter Tryz.func54,Tryz.ntmps54
  go_wp2
  go_ret2
  exact⟨⟨_,rfl,rfl⟩,HB0.out⟩
 by_cases k1:x.f0=1
 ·rw[k1]
  rw[k1] at HB0
  by_cases hf:x.f3≤1
  ·have hs:scaOf x=some (.bool (x.f3==1)):=by unfold scaOf;rw[if_neg k0,if_pos k1,if_pos hf]
   rw[hs]
   have hd:decide (x.f3≤1)=true:=by simp[hf]
   go_enter Tryz.func54,Tryz.ntmps54
   go_wp2
   go_region
   all_goals go_wp2
   all_goals go_ret2
   all_goals exact⟨⟨_,rfl,rfl⟩,HB0.out.drew⟩
  ·have hs:scaOf x=none:=by unfold scaOf;rw[if_neg k0,if_pos k1,if_neg hf]
   rw[hs]
   have hd:decide (x.f3≤1)=false:=by simp[hf]
   go_enter Tryz.func54,Tryz.ntmps54
   go_wp2
   go_region
   all_goals go_wp2
   all_goals go_ret2
   all_goals exact⟨⟨_,rfl⟩,HB0.out.drew⟩
 by_cases k2:x.f0=2
 ·have hs:scaOf x=some (.int (val x.f1 x.f2)):=by unfold scaOf;rw[if_neg k0,if_neg k1,if_pos k2]
  rw[hs,k2]
  rw[k2] at HB0
  have HW:=Lib.hid (fun W (hb:Below w.heap.size w W)=>iwhole_c 0 2 x.f3 x.f1 x.f4 _ A5 x.f5.length c5 x.f2 W (hsl.below hb) hm.1 hm.2)
  clear hsl hm hb hk
  go_enter Tryz.func54,Tryz.ntmps54
  go_wp2_with (go_at_call 91;(with_reducible refine(HW.out _ HB0.out).mono ?_);rintro e w1 ⟨u,rfl,hu,hb1⟩;have HU:=Lib.hid (And.intro hu hb1);clear hu hb1)
  go_ret2
  exact⟨⟨_,rfl,_,rfl,HU.out.1.mono HB0.out.size⟩,HB0.out.trans (HU.out.2.mono HB0.out.size)⟩
 by_cases k3:x.f0=3
 ·have hs:scaOf x=some (.float x.f3.toNat):=by unfold scaOf;rw[if_neg k0,if_neg k1,if_neg k2,if_pos k3]
  rw[hs,k3]
  rw[k3] at HB0
  go_enter Tryz.func54,Tryz.ntmps54
  go_wp2_with (go_at_call 92;(with_reducible refine(floatOf_c _ _).mono ?_);rintro e w1 ⟨rfl,hw1⟩;have HWW:=Lib.hid hw1;clear hw1)
  go_ret2
  exact⟨⟨_,rfl,rfl⟩,by rw[HWW.out];exact HB0.out⟩
 by_cases k4:x.f0=4
 ·have hs:scaOf x=some (.str x.f4):=by unfold scaOf;rw[if_neg k0,if_neg k1,if_neg k2,if_neg k3,if_pos k4]
  rw[hs,k4]
  rw[k4] at HB0
  go_enter Tryz.func54,Tryz.ntmps54
  go_wp2
  go_ret2
  exact⟨⟨_,rfl,rfl⟩,HB0.out⟩
 by_cases k5:x.f0=5
 ·have hs:scaOf x=some (.bytes x.f4):=by unfold scaOf;rw[if_neg k0,if_neg k1,if_neg k2,if_neg k3,if_neg k4,if_pos k5]
  rw[hs,k5]
  rw[k5] at HB0
  go_enter Tryz.func54,Tryz.ntmps54
  go_wp2
  go_ret2
  exact⟨⟨_,rfl,rfl⟩,HB0.out⟩
 ·have hs:scaOf x=none:=by unfold scaOf;rw[if_neg k0,if_neg k1,if_neg k2,if_neg k3,if_neg k4,if_neg k5]
  rw[hs]
  have q0:(x.f0==0)=false:=by simp[k0]
  have q1:(x.f0==1)=false:=by simp[k1]
  have q2:(x.f0==2)=false:=by simp[k2]
  have q3:(x.f0==3)=false:=by simp[k3]
  have q4:(x.f0==4)=false:=by simp[k4]
  have q5:(x.f0==5)=false:=by simp[k5]
  clear k0 k1 k2 k3 k4 k5
  go_enter Tryz.func54,Tryz.ntmps54
  go_wp2
  go_ret2
  exact⟨⟨_,rfl⟩,HB0.out⟩
end Go.Proofs.YtkplnbjgkhmbcaaGreatDoor
namespace Go.Proofs.YtkplnbjgkhmbcaaGreatDoor
set_option linter.unusedVariables false
set_option linter.unusedSimpArgs false
end Go.Proofs.YtkplnbjgkhmbcaaGreatDoor
namespace Go.Proofs.YtkplnbjgkhmbcaaGreatDoor
open Go.RowKit Go.Shelf Go.Proofs.YtkplnbjgkhmbcaaGreatDoorW.PrintWords Go.Proofs.YtkplnbjgkhmbcaaGreatDoorW.PrintLast Go.Proofs.YtkplnbjgkhmbcaaGreatDoorW.PrintMore Go.Proofs.YtkplnbjgkhmbcaaGreatDoor.PFnCompare Go.Proofs.YtkplnbjgkhmbcaaGreatDoor.PCmp Go.Proofs.YtkplnbjgkhmbcaaGreatDoor.PbytesOf
set_option linter.unusedVariables false
set_option linter.unusedSimpArgs false
structure Canon (s:Sca) (x:VT):Prop where
 leaf:Leaf x
 kids:x.f5=[]
 sca:scaOf x=some s
 text:x.f0≠4→x.f0≠5→x.f4=⟨#[]⟩
theorem Canon.kind {s:Sca} {x:VT} (h:Canon s x):x.f0=(s.kind:Int):=by
 have:=h.sca
 unfold scaOf at this
 repeat' split at this
 all_goals first|(cases this;simp_all[Sca.kind])|cases this
theorem canon_bool {b:Bool} {x:VT} (h:Canon (.bool b) x):x.f0=1∧x.f3=if b then 1 else 0:=by
 have hk:x.f0=1:=h.kind
 refine⟨hk,?_⟩
 have:=h.sca
 have hb:=h.leaf.bits
 unfold scaOf at this
 rw[if_neg (by omega),if_pos hk] at this
 split at this
 ·injection this with this
  injection this with this
  subst this
  by_cases h1:x.f3=1
  ·simp[h1]
  ·have:x.f3=0:=by omega
   simp[this]
 ·cases this
theorem canon_int {z:Int} {x:VT} (h:Canon (.int z) x):x.f0=2∧Good x.f1 x.f2∧val x.f1 x.f2=z:=by
 have hk:x.f0=2:=h.kind
 refine⟨hk,h.leaf.int hk,?_⟩
 have:=h.sca
 unfold scaOf at this
 rw[if_neg (by omega),if_neg (by omega),if_pos hk] at this
 injection this with this
 injection this
theorem canon_float {b:Nat} {x:VT} (h:Canon (.float b) x):x.f0=3∧x.f3=b:=by
 have hk:x.f0=3:=h.kind
 refine⟨hk,?_⟩
 have:=h.sca
 have hb:=h.leaf.bits
 unfold scaOf at this
 rw[if_neg (by omega),if_neg (by omega),if_neg (by omega),if_pos hk] at this
 injection this with this
 injection this with this
 omega
theorem canon_str {t:ByteArray} {x:VT} (h:Canon (.str t) x):x.f0=4∧x.f4=t:=by
 have hk:x.f0=4:=h.kind
 refine⟨hk,?_⟩
 have:=h.sca
 unfold scaOf at this
 rw[if_neg (by omega),if_neg (by omega),if_neg (by omega),if_neg (by omega),if_pos hk] at this
 injection this with this
 injection this
theorem canon_bytes {t:ByteArray} {x:VT} (h:Canon (.bytes t) x):x.f0=5∧x.f4=t:=by
 have hk:x.f0=5:=h.kind
 refine⟨hk,?_⟩
 have:=h.sca
 unfold scaOf at this
 rw[if_neg (by omega),if_neg (by omega),if_neg (by omega),if_neg (by omega),if_neg (by omega),if_pos hk] at this
 injection this with this
 injection this
theorem canon_num {s:Sca} {x:VT} (hx:Canon s x):isNum x=(s.kind==2||s.kind==3):=by
 unfold isNum
 rw[hx.kind]
 cases s<;>rfl
theorem canon_ncmp {s t:Sca} {x y:VT} (hx:Canon s x) (hy:Canon t y) (h1:isNum x=true) (h2:isNum y=true):(ncmp x y==0)=eqS s t:=by
 rw[canon_num hx] at h1
 rw[canon_num hy] at h2
 cases s<;>simp[Sca.kind] at h1
 ·cases t<;>simp[Sca.kind] at h2
  ·obtain⟨k1,g1,v1⟩:=canon_int hx
   obtain⟨k2,g2,v2⟩:=canon_int hy
   unfold ncmp eqS
   rw[if_pos k1,if_pos k2,v1,v2]
  ·obtain⟨k1,g1,v1⟩:=canon_int hx
   obtain⟨k2,v2⟩:=canon_float hy
   unfold ncmp eqS
   rw[if_pos k1,if_neg (by omega),v1,v2];rfl
 ·cases t<;>simp[Sca.kind] at h2
  ·obtain⟨k1,v1⟩:=canon_float hx
   obtain⟨k2,g2,v2⟩:=canon_int hy
   unfold ncmp eqS
   rw[if_neg (by omega),if_pos k2,v1,v2];rfl
  ·obtain⟨k1,v1⟩:=canon_float hx
   obtain⟨k2,v2⟩:=canon_float hy
   unfold ncmp eqS
   rw[if_neg (by omega),if_neg (by omega),v1,v2];rfl
theorem eqS_other {s t:Sca} (hk:s.kind≠t.kind) (hn: ¬((s.kind=2∨s.kind=3)∧(t.kind=2∨t.kind=3))):eqS s t=false:=by
 cases s<;>cases t<;>first|rfl|exact absurd rfl hk|(exact absurd ⟨by simp[Sca.kind],by simp[Sca.kind]⟩ hn)
end Go.Proofs.YtkplnbjgkhmbcaaGreatDoor
namespace Go.Proofs.YtkplnbjgkhmbcaaGreatDoor
open Go.RowKit Go.Shelf Go.Proofs.YtkplnbjgkhmbcaaGreatDoorW.PrintWords Go.Proofs.YtkplnbjgkhmbcaaGreatDoorW.PrintLast Go.Proofs.YtkplnbjgkhmbcaaGreatDoorW.PrintMore
set_option linter.unusedVariables false
set_option linter.unusedSimpArgs false
theorem newList_c (A:Option Addr) (n c:Nat) (w:World):Calls Tryz.prog 56 #[.slice A n c] w fun e w'=>e= .returned (.pointer (some ⟨w.heap.size,0,none⟩))∧LT w' w.heap.size (.slice A n c)∧Below w.heap.size w w':=by
 go_enter Tryz.func56,Tryz.ntmps56
 go_wp2
 go_ret
 exact⟨rfl,blk_new _ _,(Below.refl _ w).alloc (Nat.le_refl _) _⟩
end Go.Proofs.YtkplnbjgkhmbcaaGreatDoor
namespace Go.Proofs.YtkplnbjgkhmbcaaGreatDoor
open Go.RowKit Go.Shelf Go.Proofs.YtkplnbjgkhmbcaaGreatDoorW.PrintWords Go.Proofs.YtkplnbjgkhmbcaaGreatDoorW.PrintLast Go.Proofs.YtkplnbjgkhmbcaaGreatDoorW.PrintMore Go.Proofs.YtkplnbjgkhmbcaaGreatDoor.PFnCompare Go.Proofs.YtkplnbjgkhmbcaaGreatDoor.PCmp Go.Proofs.YtkplnbjgkhmbcaaGreatDoor.PbytesOf
set_option linter.unusedVariables false
set_option linter.unusedSimpArgs false
structure SO (w0:World) (M N:Nat) (ss:List Sca) (us:List Value) (w:World):Prop where
 low:Below w0.heap.size w0 w
 hM:w0.heap.size≤M
 lt:M<w.heap.size
 len:us.length=ss.length
 cl: ∀i (h:i<us.length),w.cell? ⟨M,i,none⟩=some us[i]
 sv: ∀i (h:i<us.length) (h2:i<ss.length),ScaV (M+1) w us[i] ss[i]
 room: ∀i,i<N→(w.cell? ⟨M,i,none⟩).isSome=true∧w.frozen? ⟨M,i,none⟩=false
theorem so_start (w:World) (N:Nat) (e:TypeId):SO w w.heap.size N [] [] (w.alloc (.cells (madeCells #[.nilIface] N) e)):=by
 refine⟨(Below.refl _ w).alloc (Nat.le_refl _) _,Nat.le_refl _,by simp,rfl,(fun i h=>absurd h (Nat.not_lt_zero _)),(fun i h=>absurd h (Nat.not_lt_zero _)),fun i hi=>⟨?_,?_⟩⟩
 ·rw[World.cell?_alloc_mark,←Array.getElem?_toList,toList_madeCells_one,List.getElem?_replicate,if_pos hi];rfl
 ·rw[World.frozen?_alloc_mark];simp
theorem wpList_append_run {P:Program} {w w':World} {ops:Array Oper} {rest:List Oper} {o:Oper} {a:Act} {Q:Exit→Act→World→Prop} (hg:o.guard=none) (s x:Operand) (t:TypeId) (hop:o.op=Op.call {callee:=Callee.builtin Builtin.append,args:=#[s,x],argTypes:=#[t,t]})
 (v1 v2 v3:Value) (hs:a.eval s=v1) (hx:a.eval x=v2) (hrun:(Builtin.append_ #[t,t] o.type #[v1,v2]).run P w= .ok v3 w') (hK:wpList P ops Q rest (a.put o.dst v3) w'):wpList P ops Q (o::rest) a w:=by
 refine wpList_plain hg fun K hK'=>?_
 unfold Oper.wp
 simp[execOp,hop,resolve,invoke,builtin,hs,hx,hrun,Result.andThen]
 exact hK' _ _ hK
theorem sca_one {B:Nat} {w:World} {v:Value} {s:Sca} (h:ScaV B w v s): ∃T x,v= .iface T x:=by
 obtain⟨T,x,K,h,_⟩:=typeAt h
 exact⟨T,x,h⟩
set_option maxRecDepth 100000 in
theorem app_one (w:World) (M j n:Nat) (T:TypeId) (x:Value) (hj:j<n) (hM:M<w.heap.size) (hr:(w.cell? ⟨M,j,none⟩).isSome=true∧w.frozen? ⟨M,j,none⟩=false):
 (Builtin.append_ #[94,94] 94 #[.slice (some ⟨M,0,none⟩) j n, .slice (some ⟨w.heap.size,0,none⟩) 1 1]).run Tryz.prog (w.alloc (.cells #[.iface T x] 57))= .ok (.slice (some ⟨M,0,none⟩) (j+1) n) ((w.alloc (.cells #[.iface T x] 57)).setCell ⟨M,j,none⟩ (.iface T x)):=by
 obtain⟨i0,hi0,hz0,hz1,hz2⟩:=info_parts valInfo
 have hb:Below w.heap.size w (w.alloc (.cells #[.iface T x] 57)):=(Below.refl _ w).alloc (Nat.le_refl _) _
 have:=run_append_room_cells (P:=Tryz.prog) (w.alloc (.cells #[.iface T x] 57)) 94 94 57 i0 Tryz.underlying94 hi0 M 0 j n ⟨w.heap.size,0,none⟩ 1 1 [.iface T x] (by rw[hz1];rfl)
  (fun l u hu=>by
   cases l with
   |zero=>simp at hu;subst hu;exact blk_cell (blk_new _ _) 0 _ rfl
   |succ l=>simp at hu)
  (fun u hu=>by rw[List.mem_singleton] at hu;subst hu;rfl) (by omega)
  (fun l hl=>by simp at hl;subst hl;rw[hz1,Nat.mul_one,Nat.zero_add,Nat.add_zero,hb.cell (p:=⟨M,j,none⟩) hM];exact hr.1)
  (fun l hl=>by simp at hl;subst hl;rw[hz1,Nat.mul_one,Nat.zero_add,Nat.add_zero,hb.frozen (p:=⟨M,j,none⟩) hM];exact hr.2)
 rw[hz1,Nat.mul_one,Nat.zero_add] at this
 exact this
end Go.Proofs.YtkplnbjgkhmbcaaGreatDoor
namespace Go.Proofs.YtkplnbjgkhmbcaaGreatDoor
open Go.RowKit Go.Shelf Go.Proofs.YtkplnbjgkhmbcaaGreatDoorW.PrintWords Go.Proofs.YtkplnbjgkhmbcaaGreatDoorW.PrintLast Go.Proofs.YtkplnbjgkhmbcaaGreatDoorW.PrintMore
set_option linter.unusedVariables false
set_option linter.unusedSimpArgs false
end Go.Proofs.YtkplnbjgkhmbcaaGreatDoor
