/- SlG SlH SlI -/
import Derived.Test.YtkplnbjgkhmbcaaGreatDoorV1
import Derived.Deep.RegionLaw
namespace Go.Proofs.YtkplnbjgkhmbcaaGreatDoor
open Go.RowKit Go.Shelf Go.Proofs.YtkplnbjgkhmbcaaGreatDoorW.PrintWords Go.Proofs.YtkplnbjgkhmbcaaGreatDoorW.PrintLast Go.Proofs.YtkplnbjgkhmbcaaGreatDoorW.PrintMore Go.Proofs.YtkplnbjgkhmbcaaGreatDoor.PFnCompare Go.Proofs.YtkplnbjgkhmbcaaGreatDoor.PCmp Go.Proofs.YtkplnbjgkhmbcaaGreatDoor.PbytesOf
set_option linter.unusedVariables false
set_option linter.unusedSimpArgs false
theorem tupInfo:(Tryz.prog.info? 98).map (fun i=>(i.zero,i.size,i.bytes))=some (some (.slice none 0 0),1,24):=by kernel_rfl
theorem made_room (W:World) (z:Array Value) (N:Nat) (e:TypeId) (i:Nat) (hi:i<N):((W.alloc (.cells (madeCells z N) e)).cell? ⟨W.heap.size,i,none⟩).isSome=true∧(W.alloc (.cells (madeCells z N) e)).frozen? ⟨W.heap.size,i,none⟩=false:=by
 refine⟨?_,?_⟩
 ·rw[World.cell?_alloc_mark,Array.getElem?_eq_getElem (by simpa [madeCells] using hi)];rfl
 ·rw[World.frozen?_alloc_mark];simp
theorem cell_set_off (w:World) (b o o':Nat) (u:Value) (h:o≠o'):(w.setCell ⟨b,o,none⟩ u).cell? ⟨b,o',none⟩=w.cell? ⟨b,o',none⟩:=World.cell?_setCell_other _ _ _ _ (by intro e;injection e with _ e;exact h e)
structure ItS (w0:World) (M1 M2:Nat) (es:List HEnt) (j:Nat) (wr:World):Prop where
 low:Below w0.heap.size w0 wr
 m1:w0.heap.size≤M1
 m2:w0.heap.size≤M2
 ne:M1≠M2
 z1:M1<wr.heap.size
 z2:M2<wr.heap.size
 r1: ∀i,i<es.length→(wr.cell? ⟨M1,i,none⟩).isSome=true∧wr.frozen? ⟨M1,i,none⟩=false
 r2: ∀i,i<es.length*2→(wr.cell? ⟨M2,i,none⟩).isSome=true∧wr.frozen? ⟨M2,i,none⟩=false
 p1: ∀i,i<j→wr.cell? ⟨M1,i,none⟩=some (.slice (some ⟨M2,i*2,none⟩) 2 2)
 p2: ∀i (h:i<es.length),i<j→wr.cell? ⟨M2,i*2,none⟩=some es[i].k∧wr.cell? ⟨M2,i*2+1,none⟩=some es[i].v
theorem itS_start (w:World) (es:List HEnt):ItS w w.heap.size (w.heap.size+1) es 0 ((w.alloc (.cells (madeCells #[.slice none 0 0] es.length) 98)).alloc (.cells (madeCells #[.nilIface] (es.length*2)) 57)):=by
 have hs:(w.alloc (.cells (madeCells #[.slice none 0 0] es.length) 98)).heap.size=w.heap.size+1:=by simp
 have hb:=(Below.refl (w.alloc (.cells (madeCells #[.slice none 0 0] es.length) 98)).heap.size (w.alloc (.cells (madeCells #[.slice none 0 0] es.length) 98))).alloc (Nat.le_refl _) (.cells (madeCells #[.nilIface] (es.length*2)) 57)
 refine⟨((Below.refl _ w).alloc (Nat.le_refl _) _).alloc (by simp) _,Nat.le_refl _,by omega,by omega,by simp;omega,by simp,fun i hi=>?_,fun i hi=>?_,fun i h=>absurd h (Nat.not_lt_zero _),fun i _ h=>absurd h (Nat.not_lt_zero _)⟩
 ·have:=made_room w #[.slice none 0 0] es.length 98 i hi
  exact⟨by rw[hb.cell (p:=⟨w.heap.size,i,none⟩) (by rw[hs];exact Nat.lt_succ_self _)];exact this.1,(hb.frozen (p:=⟨w.heap.size,i,none⟩) (by rw[hs];exact Nat.lt_succ_self _)).trans this.2⟩
 ·have:=made_room (w.alloc (.cells (madeCells #[.slice none 0 0] es.length) 98)) #[.nilIface] (es.length*2) 57 i hi
  rw[hs] at this
  exact this
theorem ItS.below {w0 wr W:World} {M1 M2 j:Nat} {es:List HEnt} (h:ItS w0 M1 M2 es j wr) (hb:Below wr.heap.size wr W):ItS w0 M1 M2 es j W:=
 ⟨h.low.trans (hb.mono h.low.size),h.m1,h.m2,h.ne,Nat.lt_of_lt_of_le h.z1 hb.size,Nat.lt_of_lt_of_le h.z2 hb.size,
  fun i hi=>⟨by rw[hb.cell (p:=⟨M1,i,none⟩) h.z1];exact(h.r1 i hi).1,(hb.frozen (p:=⟨M1,i,none⟩) h.z1).trans (h.r1 i hi).2⟩,
  fun i hi=>⟨by rw[hb.cell (p:=⟨M2,i,none⟩) h.z2];exact(h.r2 i hi).1,(hb.frozen (p:=⟨M2,i,none⟩) h.z2).trans (h.r2 i hi).2⟩,
  fun i hi=>(hb.cell (p:=⟨M1,i,none⟩) h.z1).trans (h.p1 i hi),
  fun i hi hj=>⟨(hb.cell (p:=⟨M2,_,none⟩) h.z2).trans (h.p2 i hi hj).1,(hb.cell (p:=⟨M2,_,none⟩) h.z2).trans (h.p2 i hi hj).2⟩⟩
theorem ItS.put {w0 wr:World} {M1 M2 j:Nat} {es:List HEnt} (h:ItS w0 M1 M2 es j wr) (o:Nat) (ho:j*2≤o) (u:Value):ItS w0 M1 M2 es j (wr.setCell ⟨M2,o,none⟩ u):=by
 have hs:(wr.setCell ⟨M2,o,none⟩ u).heap.size=wr.heap.size:=by simp[World.setCell]
 have hne:=h.ne
 refine⟨h.low.setCell (p:=⟨M2,o,none⟩) h.m2 _,h.m1,h.m2,h.ne,by rw[hs];exact h.z1,by rw[hs];exact h.z2,fun i hi=>⟨?_,by rw[World.frozen?_setCell];exact(h.r1 i hi).2⟩,fun i hi=>⟨?_,by rw[World.frozen?_setCell];exact(h.r2 i hi).2⟩,fun i hi=>?_,fun i hi hj=>⟨?_,?_⟩⟩
 ·rw[World.cell?_setCell_far _ _ _ _ (by exact fun e=>hne e.symm)];exact(h.r1 i hi).1
 ·by_cases e:i=o
  ·subst e
   rw[World.cell?_setCell_same' _ _ _ (h.r2 i hi).1];rfl
  ·rw[cell_set_off _ _ _ _ _ (fun e2=>e e2.symm)];exact(h.r2 i hi).1
 ·rw[World.cell?_setCell_far _ _ _ _ (by exact fun e=>hne e.symm)];exact h.p1 i hi
 ·rw[cell_set_off _ _ _ _ _ (by omega)];exact(h.p2 i hi hj).1
 ·rw[cell_set_off _ _ _ _ _ (by omega)];exact(h.p2 i hi hj).2
theorem ItS.step {w0 wr:World} {M1 M2 j:Nat} {es:List HEnt} (h:ItS w0 M1 M2 es j wr) (hj:j<es.length) (hk:wr.cell? ⟨M2,j*2,none⟩=some es[j].k) (hv:wr.cell? ⟨M2,j*2+1,none⟩=some es[j].v):ItS w0 M1 M2 es (j+1) (wr.setCells M1 j [.slice (some ⟨M2,j*2,none⟩) 2 2]):=by
 have hsz:(wr.setCells M1 j [.slice (some ⟨M2,j*2,none⟩) 2 2]).heap.size=wr.heap.size:=size_setCells _ _ _ _
 have hin: ∀l,l<([Value.slice (some ⟨M2,j*2,none⟩) 2 2]:List Value).length→(wr.cell? ⟨M1,j+l,none⟩).isSome=true:=fun l hl=>(h.r1 _ (by simp at hl;omega)).1
 have hM2: ∀i,(wr.setCells M1 j [.slice (some ⟨M2,j*2,none⟩) 2 2]).cell? ⟨M2,i,none⟩=wr.cell? ⟨M2,i,none⟩:=fun i=>World.cell?_setCells_out M1 _ _ _ _ (fun e _=>absurd e (fun e=>h.ne e.symm))
 have hM1: ∀i,i≠j→(wr.setCells M1 j [.slice (some ⟨M2,j*2,none⟩) 2 2]).cell? ⟨M1,i,none⟩=wr.cell? ⟨M1,i,none⟩:=fun i hi=>World.cell?_setCells_out M1 _ _ _ _ (fun _ _=>by show i<j∨j+1≤i;omega)
 have hM0:(wr.setCells M1 j [.slice (some ⟨M2,j*2,none⟩) 2 2]).cell? ⟨M1,j,none⟩=some (.slice (some ⟨M2,j*2,none⟩) 2 2):=World.cell?_setCells_in M1 _ j wr hin 0 (by simp)
 refine⟨below_setCells h.m1 _ _ _ h.low,h.m1,h.m2,h.ne,by rw[hsz];exact h.z1,by rw[hsz];exact h.z2,fun i hi=>⟨?_,by rw[World.frozen?_setCells];exact(h.r1 i hi).2⟩,fun i hi=>⟨by rw[hM2];exact(h.r2 i hi).1,by rw[World.frozen?_setCells];exact(h.r2 i hi).2⟩,fun i hi=>?_,fun i hi hj2=>?_⟩
 ·by_cases e:i=j
  ·rw[e,hM0];rfl
  ·rw[hM1 i e];exact(h.r1 i hi).1
 ·by_cases e:i=j
  ·rw[e,hM0]
  ·rw[hM1 i e];exact h.p1 i (by omega)
 ·rw[hM2,hM2]
  by_cases e:i=j
  ·subst e;exact⟨hk,hv⟩
  ·exact h.p2 i hi (by omega)
set_option maxRecDepth 100000 in
set_option maxHeartbeats 1000000 in
theorem items_c (g:Nat) (T:TypeId) (tab:Bool) (es:List HEnt) (it:Int) (w:World) (h:HTab w g T tab es it) (hn:es.length≤8) (hif: ∀j (hj:j<es.length),(∃T x,es[j].k= .iface T x)∧ ∃T x,es[j].v= .iface T x):
 Calls Tryz.prog 146 #[.pointer (some ⟨g,0,none⟩)] w fun e w'=> ∃M1 M2,e= .returned (.slice (some ⟨M1,0,none⟩) es.length es.length)∧ItS w M1 M2 es es.length w':=by
 obtain⟨i1,hi1,hz1,hs1,hb1⟩:=info_parts tupInfo
 obtain⟨i2,hi2,hz2,hs2,hb2⟩:=info_parts valInfo
 have hmk1:=fun W=>run_make (P:=Tryz.prog) W 216 98 i1 (.slice none 0 0) Tryz.underlying216 hi1 hz1 .i64 .u32 0 es.length (by omega) (by omega) (by rw[hb1];omega) (by omega)
 have hmk2:=fun W=>run_make (P:=Tryz.prog) W 94 57 i2 .nilIface Tryz.underlying94 hi2 hz2 .u32 .u32 ((es.length:Int)*2) ((es.length:Int)*2) (by omega) (by omega) (by rw[hb2];omega) (by omega)
 have ht2:((es.length:Int)*2).toNat=es.length*2:=by omega
 simp only[hs1,Nat.mul_one,Int.toNat_natCast,Int.toNat_zero] at hmk1
 simp only[hs2,Nat.mul_one,ht2] at hmk2
 rw[show(Value.slice none 0 0).cells=#[.slice none 0 0] from rfl] at hmk1
 rw[show Value.nilIface.cells=#[.nilIface] from rfl] at hmk2
 have hwr:IntKind.u32.wrap ((es.length:Int)*2)=(es.length:Int)*2:=by rw[wrap32];omega
 have c42:=h.c42
 have y42: ∀o,(w.alloc o).cell? ⟨g,42,none⟩=w.cell? ⟨g,42,none⟩:=fun o=>((Below.refl _ w).alloc (Nat.le_refl _) o).cell (p:=⟨g,42,none⟩) (lt_blk h)
 have y44: ∀o o',((w.alloc o).alloc o').cell? ⟨g,44,none⟩=some (entP g es.length 0):=fun o o'=>((((Below.refl _ w).alloc (Nat.le_refl _) o).alloc (by simp) o').cell (p:=⟨g,44,none⟩) (lt_blk h)).trans h.head
 simp only[c42] at y42
 have H0:=Lib.hid h
 have HS0:=Lib.hid (itS_start w es)
 have HIF:=Lib.hid hif
 have happ: ∀(W:World) (j:Nat),Hid (ItS w w.heap.size (w.heap.size+1) es j W)→j<es.length→(Builtin.append_ #[216,216] 216 #[.slice (some ⟨w.heap.size,0,none⟩) j es.length, .slice (some ⟨W.heap.size,0,none⟩) 1 1]).run Tryz.prog (W.alloc (.cells #[.slice (some ⟨w.heap.size+1,j*2,none⟩) 2 2] 98))= .ok (.slice (some ⟨w.heap.size,0,none⟩) (j+1) es.length) ((W.alloc (.cells #[.slice (some ⟨w.heap.size+1,j*2,none⟩) 2 2] 98)).setCells w.heap.size j [.slice (some ⟨w.heap.size+1,j*2,none⟩) 2 2]):=by
  intro W j HS hj
  have hS:=HS.out.below ((Below.refl _ W).alloc (Nat.le_refl _) (.cells #[.slice (some ⟨w.heap.size+1,j*2,none⟩) 2 2] 98))
  have:=run_append_room_cells (P:=Tryz.prog) (W.alloc (.cells #[.slice (some ⟨w.heap.size+1,j*2,none⟩) 2 2] 98)) 216 216 98 i1 Tryz.underlying216 hi1 w.heap.size 0 j es.length ⟨W.heap.size,0,none⟩ 1 1 [.slice (some ⟨w.heap.size+1,j*2,none⟩) 2 2] (by rw[hs1];rfl)
   (fun l u hu=>by
    rw[add_off]
    refine blk_cell (blk_new _ _) l _ ?_
    rw[show(#[.slice (some ⟨w.heap.size+1,j*2,none⟩) 2 2]:Array Value)=([.slice (some ⟨w.heap.size+1,j*2,none⟩) 2 2]:List Value).toArray from rfl,List.getElem?_toArray]
    exact hu)
   (fun u hu=>by rw[List.mem_singleton] at hu;subst hu;rfl) (by omega)
   (fun l hl=>by rw[hs1,Nat.mul_one,Nat.zero_add];exact(hS.r1 _ (by simp at hl;omega)).1)
   (fun l hl=>by rw[hs1,Nat.mul_one,Nat.zero_add];exact(hS.r1 _ (by simp at hl;omega)).2)
  rw[hs1,Nat.mul_one,Nat.zero_add] at this
  exact this
 have HAP:=Lib.hid happ
 clear hz1 hz2 hs1 hs2 hb1 hb2 hi1 hi2 h hif happ
 go_enter Tryz.func146,Tryz.ntmps146
 go_wp2_with fail
 obtain⟨W0,hW0⟩: ∃W,W=(w.alloc (.cells (madeCells #[.slice none 0 0] es.length) 98)).alloc (.cells (madeCells #[.nilIface] (es.length*2)) 57):=⟨_,rfl⟩
 rw[←hW0] at HS0
 (try rw[←hW0])
 clear hW0 hmk1 hmk2 y42 y44 c42 hwr ht2
 go_loopw [3,4,5] (fun l a p wr=> ∃j:Nat,j≤es.length∧l= .slice (some ⟨w.heap.size,0,none⟩) j es.length∧(∃o c,a= .slice (some ⟨w.heap.size+1,o,none⟩) c c∧(j<es.length→o=j*2∧c=(es.length-j)*2))∧p=entP g es.length j∧Hid (ItS w w.heap.size (w.heap.size+1) es j wr)) (fun _ _ p _=>offOf p)
 case atStart=>exact⟨0,Nat.zero_le _,rfl,⟨0,_,rfl,fun _=>⟨by omega,by omega⟩⟩,rfl,HS0⟩
 case round=>
  obtain⟨j,hj0,rfl,⟨o,c,rfl,hoc⟩,rfl,HS⟩:=hrel
  by_cases hlt:j<es.length
  ·rw[entP_some hlt]
   obtain⟨rfl,hc⟩:=hoc hlt
   obtain⟨⟨TK,kx,hk⟩,⟨TV,vx,hv⟩⟩:=HIF.out j hlt
   obtain⟨k1,k2,k3⟩:=(H0.out.below HS.out.low).ent hn j hlt
   have HM:=Lib.hid (off_next (g:=g) hlt hn)
   have q0:=HS.out.r2 (j*2) (by omega)
   have q1:=HS.out.r2 (j*2+1) (by omega)
   obtain⟨u0,hu0⟩:=Option.isSome_iff_exists.1 q0.1
   have f0:=q0.2
   rw[hk] at k1
   have hc2:(2:Int)≤c:=by omega
   have hc2n:2≤c:=by omega
   have HS1:=Lib.hid (HS.out.put (j*2) (Nat.le_refl _) (.iface TK kx))
   have HC1:Hid ((wr.setCell ⟨w.heap.size+1,j*2,none⟩ (.iface TK kx)).cell? ⟨w.heap.size+1,j*2,none⟩=some (.iface TK kx)):=Lib.hid (World.cell?_setCell_same' _ _ _ q0.1)
   have HK:=Lib.hid (And.intro hk hv)
   clear q0 q1 hk hv k2 k3
   by_cases hcc:c=2
   all_goals
    go_upto_region 9 with fail
    obtain⟨W1,hW1⟩: ∃W,W=wr.setCell ⟨w.heap.size+1,j*2,none⟩ (.iface TK kx):=⟨_,rfl⟩
    rw[←hW1] at HS1 HC1
    rw[←hW1]
    clear hW1 k1 hu0 f0
    obtain⟨_,k2,k3⟩:=(H0.out.below HS1.out.low).ent hn j hlt
    rw[HK.out.2] at k2
    have q1:=HS1.out.r2 (j*2+1) (by omega)
    obtain⟨u1,hu1⟩:=Option.isSome_iff_exists.1 q1.1
    have f1:=q1.2
    have HS2:=Lib.hid (HS1.out.put (j*2+1) (Nat.le_succ _) (.iface TV vx))
    have HC2:Hid ((W1.setCell ⟨w.heap.size+1,j*2+1,none⟩ (.iface TV vx)).cell? ⟨w.heap.size+1,j*2,none⟩=some (.iface TK kx)∧(W1.setCell ⟨w.heap.size+1,j*2+1,none⟩ (.iface TV vx)).cell? ⟨w.heap.size+1,j*2+1,none⟩=some (.iface TV vx)):=Lib.hid ⟨by rw[cell_set_off _ _ _ _ _ (by omega)];exact HC1.out,World.cell?_setCell_same' _ _ _ q1.1⟩
    clear q1 k3
    go_upto_region 10 with fail
    obtain⟨W2,hW2⟩: ∃W,W=W1.setCell ⟨w.heap.size+1,j*2+1,none⟩ (.iface TV vx):=⟨_,rfl⟩
    rw[←hW2] at HS2 HC2
    rw[←hW2]
    clear hW2 k2 hu1 f1
    have hrun:=Lib.hid (HAP.out W2 j HS2 hlt)
    have HS3:=Lib.hid (HS2.out.below ((Below.refl _ W2).alloc (Nat.le_refl _) (.cells #[.slice (some ⟨w.heap.size+1,j*2,none⟩) 2 2] 98)))
    have HS4:=Lib.hid (HS3.out.step hlt ((((Below.refl _ W2).alloc (Nat.le_refl _) _).cell (p:=⟨w.heap.size+1,j*2,none⟩) HS2.out.z2).trans (HC2.out.1.trans (by rw[HK.out.1]))) ((((Below.refl _ W2).alloc (Nat.le_refl _) _).cell (p:=⟨w.heap.size+1,j*2+1,none⟩) HS2.out.z2).trans (HC2.out.2.trans (by rw[HK.out.2]))))
    obtain⟨_,_,k3⟩:=(H0.out.below HS4.out.low).ent hn j hlt
    go_wp2_with (at_builtin;refine wpList_append_run rfl _ _ _ rfl _ _ _ rfl rfl hrun.out ?_)
    go_roundw
    case rel=>exact⟨j+1,by omega,rfl,⟨_,_,rfl,fun _=>⟨by omega,by omega⟩⟩,rfl,HS4⟩
    case measure=>exact HM.out
  ·obtain rfl:j=es.length:=by omega
   rw[entP_none]
   go_wp2_with fail
   go_ret
   exact⟨_,_,rfl,HS.out⟩
set_option maxRecDepth 100000 in
theorem dictItems_c (g:Nat) (tab:Bool) (es:List HEnt) (it:Int) (w:World) (h:HTab w g 183 tab es it) (hn:es.length≤8) (hif: ∀j (hj:j<es.length),(∃T x,es[j].k= .iface T x)∧ ∃T x,es[j].v= .iface T x):
 Calls Tryz.prog 111 #[.pointer (some ⟨g,0,none⟩)] w fun e w'=> ∃M1 M2,e= .returned (.slice (some ⟨M1,0,none⟩) es.length es.length)∧ItS w M1 M2 es es.length w':=by
 have HI:=Lib.hid (items_c g _ tab es it w h hn hif)
 clear h hif
 go_enter Tryz.func111,Tryz.ntmps111
 go_wp2_with (go_at_call 146;(with_reducible refine HI.out.mono ?_);rintro e w1 ⟨M1,M2,rfl,hS⟩;have HS:=Lib.hid hS;clear hS)
 go_ret
 exact⟨M1,M2,rfl,HS.out⟩
end Go.Proofs.YtkplnbjgkhmbcaaGreatDoor
namespace Go.Proofs.YtkplnbjgkhmbcaaGreatDoor
open Go.RowKit Go.Shelf Go.Proofs.YtkplnbjgkhmbcaaGreatDoorW.PrintWords Go.Proofs.YtkplnbjgkhmbcaaGreatDoorW.PrintLast Go.Proofs.YtkplnbjgkhmbcaaGreatDoorW.PrintMore Go.Proofs.YtkplnbjgkhmbcaaGreatDoor.PFnCompare Go.Proofs.YtkplnbjgkhmbcaaGreatDoor.PCmp Go.Proofs.YtkplnbjgkhmbcaaGreatDoor.PbytesOf
set_option linter.unusedVariables false
set_option linter.unusedSimpArgs false
def turns:List HEnt→List Value
 |[]=>[]
 |e::l=>e.k::e.v::turns l
theorem turns_len: ∀(es:List HEnt),(turns es).length=es.length*2
 |[]=>rfl
 |e::l=>by simp only[turns,List.length_cons,turns_len l];omega
theorem turns_append: ∀(a b:List HEnt),turns (a++b)=turns a++turns b
 |[],b=>rfl
 |e::l,b=>by simp only[turns,List.cons_append,turns_append l b]
theorem turns_at: ∀(es:List HEnt) (i:Nat) (h:i<es.length),(turns es)[i*2]?=some es[i].k∧(turns es)[i*2+1]?=some es[i].v
 |e::l,0,h=>⟨rfl,rfl⟩
 |e::l,i+1,h=>by
  have:=turns_at l i (by simpa using h)
  simp only[turns,List.getElem_cons_succ]
  rw[show(i+1)*2=i*2+1+1 by omega,List.getElem?_cons_succ,List.getElem?_cons_succ,List.getElem?_cons_succ,List.getElem?_cons_succ]
  exact this
theorem turns_take (es:List HEnt) (j:Nat) (h:j<es.length):turns (es.take (j+1))=turns (es.take j)++[es[j].k,es[j].v]:=by
 rw[List.take_succ_eq_append_getElem h,turns_append];rfl
theorem turns_if {es:List HEnt} (hif: ∀j (hj:j<es.length),(∃T x,es[j].k= .iface T x)∧ ∃T x,es[j].v= .iface T x): ∀u∈turns es,∃T x,u= .iface T x:=by
 intro u hu
 obtain⟨i,hi,rfl⟩:=List.mem_iff_getElem.1 hu
 rw[turns_len] at hi
 have hq:i/2<es.length:=by omega
 obtain⟨h1,h2⟩:=turns_at es (i/2) hq
 have hg:=List.getElem?_eq_getElem (l:=turns es) (i:=i) (by rw[turns_len];omega)
 rcases Nat.mod_two_eq_zero_or_one i with e|e
 ·rw[show i/2*2=i by omega,hg] at h1
  obtain⟨T,x,h⟩:=(hif _ hq).1
  exact⟨T,x,(Option.some.inj h1).trans h⟩
 ·rw[show i/2*2+1=i by omega,hg] at h2
  obtain⟨T,x,h⟩:=(hif _ hq).2
  exact⟨T,x,(Option.some.inj h2).trans h⟩
theorem app_more (w0 W:World) (v:Value) (n M c:Nat) (xs news:List Value) (HO:W.ownsRow w0.heap.size 57 1 v n xs) (hM:W.heap[M]?=some (.cells news.toArray 57 (0,0))) (hif: ∀u∈news,∃T x,u= .iface T x) (hb:Below w0.heap.size w0 W) (hn:n+news.length≤1000000):
 ∃v1 w1,(Builtin.append_ #[94,94] 94 #[v, .slice (some ⟨M,0,none⟩) news.length c]).run Tryz.prog W= .ok v1 w1∧(w1.ownsRow w0.heap.size 57 1 v1 (n+news.length) (xs++news)∧Below w0.heap.size w0 w1):=by
 obtain⟨i0,hi,hz0,hz1,hz2⟩:=info_parts valInfo
 obtain⟨v1,w1,hrun,h2,hg2,_,hat⟩:=run_append_own_at (P:=Tryz.prog) W w0.heap.size 94 94 57 i0 _ 1 16 Tryz.underlying94 hi hz0 hz1 hz2 rfl (by omega) v n xs HO ⟨M,0,none⟩ news.length c news (by simp)
  (by
   intro j u hj
   rw[add_off]
   refine blk_cell hM j _ ?_
   rw[List.getElem?_toArray]
   exact hj)
  (by intro u hu;obtain⟨T,x,rfl⟩:=hif u hu;rfl) (by simp only[maxLen];omega) (by omega) hb.size
 exact⟨v1,w1,hrun,h2,hb.grown hg2 hb.size (own_base HO)⟩
set_option maxRecDepth 100000 in
set_option maxHeartbeats 1000000 in
theorem paired_c (g:Nat) (tab:Bool) (es:List HEnt) (it:Int) (w:World) (h:HTab w g 183 tab es it) (hn:es.length≤8) (hif: ∀j (hj:j<es.length),(∃T x,es[j].k= .iface T x)∧ ∃T x,es[j].v= .iface T x):
 Calls Tryz.prog 74 #[.pointer (some ⟨g,0,none⟩)] w fun e w'=> ∃v,e= .returned v∧RW w' v (turns es)∧Below w.heap.size w w':=by
 have HI:=Lib.hid (dictItems_c g tab es it w h hn hif)
 have HIF:=Lib.hid hif
 have HAP:=Lib.hid app_more
 clear h hif
 go_enter Tryz.func74,Tryz.ntmps74
 go_wp2_with (go_at_call 111;(with_reducible refine HI.out.mono ?_);rintro e w1 ⟨M1,M2,rfl,hS⟩;have HS:=Lib.hid hS;clear hS)
 go_loopw [2,8] (fun l i wr=> ∃j:Nat,j≤es.length∧i= .int .i64 (j:Int)∧Hid (wr.ownsRow w1.heap.size 57 1 l (j*2) (turns (es.take j))∧Below w1.heap.size w1 wr)) (fun _ i _=>es.length-(intOf i).toNat)
 case atStart=>exact⟨0,Nat.zero_le _,rfl,Lib.hid ⟨by simp[World.ownsRow,turns],Below.refl _ _⟩⟩
 case round=>
  obtain⟨j,hj,rfl,HO⟩:=hrel
  by_cases hlt:j<es.length
  ·have hb:=HO.out.2
   have hS:=HS.out.below hb
   have hlt2:(j:Int)<es.length:=by omega
   obtain⟨⟨TK,kx,hk⟩,⟨TV,vx,hv⟩⟩:=HIF.out j hlt
   have x0:=hS.p1 j hlt
   obtain⟨k0,k1⟩:=hS.p2 j hlt hlt
   rw[hk] at k0
   rw[hv] at k1
   have HT:=turns_take es j hlt
   rw[hk,hv] at HT
   have HA:Hid (∀W,W.heap[wr.heap.size]?=some (.cells #[.iface TK kx, .iface TV vx] 57 (0,0))→Below wr.heap.size wr W→ ∃v1 w2,(Builtin.append_ #[94,94] 94 #[u2, .slice (some ⟨wr.heap.size,0,none⟩) 2 2]).run Tryz.prog W= .ok v1 w2∧(w2.ownsRow w1.heap.size 57 1 v1 ((j+1)*2) (turns (es.take (j+1)))∧Below w1.heap.size w1 w2)):=Lib.hid fun W hW hbW=>by
    have:=HAP.out w1 W u2 (j*2) wr.heap.size 2 (turns (es.take j)) [.iface TK kx, .iface TV vx] (pw_own_below HO.out.1 hbW) hW (by intro u hu;simp only[List.mem_cons,List.not_mem_nil,or_false] at hu;rcases hu with rfl|rfl<;>exact⟨_,_,rfl⟩) (hb.trans (hbW.mono hb.size)) (by show j*2+2≤1000000;omega)
    rw[←HT] at this
    rw[show(j+1)*2=j*2+2 by omega]
    exact this
   clear hS hb hk hv HT
   go_upto_region 4 with fail
   go_region_law (refine step_append_ex rfl (.tmp 12) (.tmp 19) 94 rfl _ _ (by simp[Act.eval,Act.put]) (by simp[Act.eval,Act.put]) (HA.out _ (by first|exact blk_new _ _|exact blk_new wr.drew _) (by first|exact(Below.refl _ wr).drew.alloc (Nat.le_refl _) _|exact((Below.refl _ wr).alloc (Nat.le_refl _) _).drew)) ?_;intro v1 w2 ho1;have HO1:=Lib.hid ho1;clear ho1)
   all_goals go_wp2
   all_goals go_roundw
   all_goals first
    |exact⟨j+1,by omega,by go_num,HO1⟩
    |(simp[intOf];omega)
  ·obtain rfl:j=es.length:=by omega
   go_wp2_with fail
   go_ret
   refine⟨_,rfl,?_,HS.out.low.trans (HO.out.2.mono HS.out.low.size)⟩
   have:=HO.out.1
   rw[List.take_of_length_le (Nat.le_refl _),←turns_len] at this
   exact rw_of_own this
end Go.Proofs.YtkplnbjgkhmbcaaGreatDoor
namespace Go.Proofs.YtkplnbjgkhmbcaaGreatDoor
open Go.RowKit Go.Shelf Go.Proofs.YtkplnbjgkhmbcaaGreatDoorW.PrintWords Go.Proofs.YtkplnbjgkhmbcaaGreatDoorW.PrintLast Go.Proofs.YtkplnbjgkhmbcaaGreatDoorW.PrintMore Go.Proofs.YtkplnbjgkhmbcaaGreatDoor.PFnCompare Go.Proofs.YtkplnbjgkhmbcaaGreatDoor.PCmp Go.Proofs.YtkplnbjgkhmbcaaGreatDoor.PbytesOf
set_option linter.unusedVariables false
set_option linter.unusedSimpArgs false
def AL:Nat→VT→VT→Prop
 |0,x,y=>Alike x y
 |n+1,x,y=>Alike x y∨(6≤x.f0∧x.f0=y.f0∧x.f4=y.f4∧x.f5.length=y.f5.length∧x.f5.length≤1000000∧ ∀i (h1:i<x.f5.length) (h2:i<y.f5.length),AL n x.f5[i] y.f5[i])
theorem AL.flat {x y:VT} (h:Alike x y): ∀n,AL n x y
 |0=>h
 |n+1=>Or.inl h
abbrev six6 (x:VT) (A2:Option Addr) (c2:Nat) (A5:Option Addr) (c5:Nat):List Value:=[.int .i64 x.f0, .bool x.f1, .slice A2 x.f2.length c2, .int .u64 x.f3, .string x.f4, .slice A5 x.f5.length c5]
def EVn:Nat→Nat→World→List Value→VT→Prop
 |0,B,w,cs,x=> ∃A c,cs=six6 x A c none 0∧Sl .u8 B w (.slice A x.f2.length c) x.f2∧x.f5=[]
 |n+1,B,w,cs,x=> ∃A c A5 c5,cs=six6 x A c A5 c5∧Sl .u8 B w (.slice A x.f2.length c) x.f2∧x.f5.length≤c5∧x.f5.length≤1000000∧(x.f5≠[]→ ∃M,A5=some ⟨M,0,none⟩∧B≤M∧M<w.heap.size∧ ∀i (h:i<x.f5.length),∃cs',(∀j v,cs'[j]?=some v→w.cell? ⟨M,i*6+j,none⟩=some v)∧EVn n B w cs' x.f5[i])
theorem EVn.agr {B:Nat} {w w':World} (ha:Agr B w w'): ∀{n:Nat} {cs:List Value} {x:VT},EVn n B w cs x→EVn n B w' cs x
 |0,cs,x,h=>by
  obtain⟨A,c,e,h1,h2⟩:=h
  exact⟨A,c,e,h1.agr ha,h2⟩
 |n+1,cs,x,h=>by
  obtain⟨A,c,A5,c5,e,h1,h2,h3,h4⟩:=h
  refine⟨A,c,A5,c5,e,h1.agr ha,h2,h3,fun hne=>?_⟩
  obtain⟨M,e5,hB,hlt,hk⟩:=h4 hne
  refine⟨M,e5,hB,Nat.lt_of_lt_of_le hlt ha.sz,fun i hi=>?_⟩
  obtain⟨cs',hc,hv⟩:=hk i hi
  exact⟨cs',fun j v hj=>(cell_of_block (ha.eq M hB hlt) _).trans (hc j v hj),EVn.agr ha hv⟩
theorem EVn.lower {B B':Nat} {w:World} (hB:B'≤B): ∀{n:Nat} {cs:List Value} {x:VT},EVn n B w cs x→EVn n B' w cs x
 |0,cs,x,h=>by
  obtain⟨A,c,e,h1,h2⟩:=h
  exact⟨A,c,e,h1.mono hB,h2⟩
 |n+1,cs,x,h=>by
  obtain⟨A,c,A5,c5,e,h1,h2,h3,h4⟩:=h
  refine⟨A,c,A5,c5,e,h1.mono hB,h2,h3,fun hne=>?_⟩
  obtain⟨M,e5,hB2,hlt,hk⟩:=h4 hne
  refine⟨M,e5,Nat.le_trans hB hB2,hlt,fun i hi=>?_⟩
  obtain⟨cs',hc,hv⟩:=hk i hi
  exact⟨cs',hc,EVn.lower hB hv⟩
theorem EVn.below {n B:Nat} {w w':World} {cs:List Value} {x:VT} (h:EVn n B w cs x) (hb:Below w.heap.size w w'):EVn n B w' cs x:=h.agr ((Below.agr hb).mono (Nat.zero_le _))
theorem EVn.flat {B:Nat} {w:World} {x:VT} {A:Option Addr} {c:Nat} (h1:Sl .u8 B w (.slice A x.f2.length c) x.f2) (h2:x.f5=[]): ∀n,EVn n B w (six6 x A c none 0) x
 |0=>⟨A,c,rfl,h1,h2⟩
 |n+1=>⟨A,c,none,0,rfl,h1,by rw[h2];exact Nat.le_refl _,by rw[h2];exact Nat.zero_le _,fun hne=>absurd h2 hne⟩
theorem EVn.k {B:Nat} {w:World}: ∀{n:Nat} {cs:List Value} {x:VT},EVn n B w cs x→kV.K w x cs
 |0,cs,x,h=>by
  obtain⟨A,c,rfl,h1,h2⟩:=h
  obtain⟨A',c',e,hc',hC⟩:=h1.c
  simp only[Value.slice.injEq] at e
  obtain⟨rfl,_,rfl⟩:=e
  have hz:kV.C w none x.f5.length x.f5:=by rw[h2];exact⟨rfl,by simp,fun h=>by simp at h⟩
  exact k26_mk w x hc' hC (A5:=none) (c5:=0) (by rw[h2];exact Nat.le_refl _) hz
 |n+1,cs,x,h=>by
  obtain⟨A,c,A5,c5,rfl,h1,h2,h3,h4⟩:=h
  obtain⟨A',c',e,hc',hC⟩:=h1.c
  simp only[Value.slice.injEq] at e
  obtain⟨rfl,_,rfl⟩:=e
  refine k26_mk w x hc' hC h2 ⟨rfl,by omega,fun hpos=>?_⟩
  obtain⟨M,rfl,_,_,hk⟩:=h4 (by intro e;rw[e] at hpos;simp at hpos)
  refine⟨_,rfl,fun j p hj=>?_⟩
  obtain⟨hlt,rfl⟩:=List.getElem?_eq_some_iff.1 hj
  obtain⟨cs',hc2,hv⟩:=hk j hlt
  refine⟨cs',kV.K_len hv.k,hv.k,fun i u hi=>?_⟩
  rw[add_off]
  exact hc2 i u hi
theorem EVn.vr {n B:Nat} {w:World} {cs:List Value} {x:VT} (h:EVn n B w cs x):VR w (.agg cs.toArray) x:=⟨cs,rfl,h.k⟩
def TellT (n:Nat) (w:World) (x:VT) (e:Ending) (w':World):Prop:= ∃y A c A5 c5,e= .returned (.agg #[.int .i64 y.f0, .bool y.f1, .slice A y.f2.length c, .int .u64 y.f3, .string y.f4, .slice A5 y.f5.length c5])∧EVn n w.heap.size w' (six6 y A c A5 c5) y∧AL n x y∧Below w.heap.size w w'
structure VN (n:Nat) (w0:World) (M N:Nat) (xs ys:List VT) (w:World):Prop where
 low:Below w0.heap.size w0 w
 hM:w0.heap.size≤M
 lt:M<w.heap.size
 el: ∀i (h:i<ys.length),∃cs,(∀j v,cs[j]?=some v→w.cell? ⟨M,i*6+j,none⟩=some v)∧EVn n (M+1) w cs ys[i]
 al: ∀i (h1:i<ys.length) (h2:i<xs.length),AL n xs[i] ys[i]
 room: ∀i,i<N*6→(w.cell? ⟨M,i,none⟩).isSome=true∧w.frozen? ⟨M,i,none⟩=false
theorem VN.below {n:Nat} {w0 w w':World} {M N:Nat} {xs ys:List VT} (h:VN n w0 M N xs ys w) (hb:Below w.heap.size w w'):VN n w0 M N xs ys w':=
 ⟨h.low.trans (hb.mono h.low.size),h.hM,Nat.lt_of_lt_of_le h.lt hb.size,fun i hi=>by
  obtain⟨cs,h1,h2⟩:=h.el i hi
  exact⟨cs,fun j v hj=>(hb.cell (p:=⟨M,i*6+j,none⟩) h.lt).trans (h1 j v hj),h2.below hb⟩,h.al,fun i hi=>⟨by rw[hb.cell (p:=⟨M,i,none⟩) h.lt];exact(h.room i hi).1,(hb.frozen (p:=⟨M,i,none⟩) h.lt).trans (h.room i hi).2⟩⟩
theorem vn_start (n:Nat) (w:World) (N:Nat) (z:Array Value) (e:TypeId) (xs:List VT):VN n w w.heap.size N xs [] (w.alloc (.cells (madeCells z (N*6)) e)):=by
 refine⟨(Below.refl _ w).alloc (Nat.le_refl _) _,Nat.le_refl _,by simp,(fun i h=>absurd h (Nat.not_lt_zero _)),(fun i h=>absurd h (Nat.not_lt_zero _)),fun i hi=>⟨?_,?_⟩⟩
 ·rw[World.cell?_alloc_mark,Array.getElem?_eq_getElem (by simpa [madeCells] using hi)];rfl
 ·rw[World.frozen?_alloc_mark];simp
theorem VN.push {n:Nat} {w0 w:World} {M N:Nat} {xs ys:List VT} {y:VT} {cs:List Value} (h:VN n w0 M N xs ys w) (hs:EVn n (M+1) w cs y) (ha: ∀(h2:ys.length<xs.length),AL n xs[ys.length] y) (hk:ys.length<N):VN n w0 M N xs (ys++[y]) (w.setCells M (ys.length*6) cs):=by
 have h6:cs.length=6:=kV.K_len hs.k
 have hsz:(w.setCells M (ys.length*6) cs).heap.size=w.heap.size:=size_setCells _ _ _ _
 have hst:Agr (M+1) w (w.setCells M (ys.length*6) cs):=⟨Nat.le_of_eq hsz.symm,fun i h1 h2=>World.heap_setCells_other w M _ _ h2 (by omega)⟩
 have hin: ∀l,l<cs.length→(w.cell? ⟨M,ys.length*6+l,none⟩).isSome=true:=fun l hl=>(h.room _ (by omega)).1
 refine⟨below_setCells h.hM _ _ _ h.low,h.hM,by rw[hsz];exact h.lt,?_,?_,?_⟩
 ·intro i hi
  by_cases hlt:i<ys.length
  ·rw[List.getElem_append_left hlt]
   obtain⟨cs',h1,h2⟩:=h.el i hlt
   have h6':cs'.length=6:=kV.K_len h2.k
   refine⟨cs',fun j v hj=>?_,h2.agr hst⟩
   have hj6:j<6:=by have:=(List.getElem?_eq_some_iff.1 hj).1;omega
   rw[World.cell?_setCells_out M _ _ _ _ (fun _ _=>Or.inl (by show i*6+j<ys.length*6;omega))]
   exact h1 j v hj
  ·have hie:i=ys.length:=by simp at hi;omega
   subst hie
   have e2:(ys++[y])[ys.length]=y:=by simp
   rw[e2]
   refine⟨cs,fun j v hj=>?_,hs.agr hst⟩
   obtain⟨hj6,hv⟩:=List.getElem?_eq_some_iff.1 hj
   rw[World.cell?_setCells_in M cs (ys.length*6) w hin j hj6,hv]
 ·intro i h1 h2
  by_cases hlt:i<ys.length
  ·rw[List.getElem_append_left hlt]
   exact h.al i hlt h2
  ·have hie:i=ys.length:=by simp at h1;omega
   subst hie
   have e2:(ys++[y])[ys.length]=y:=by simp
   rw[e2]
   exact ha h2
 ·intro i hi
  refine⟨?_,by rw[World.frozen?_setCells];exact(h.room i hi).2⟩
  by_cases hr:ys.length*6≤i∧i<ys.length*6+6
  ·have:=World.cell?_setCells_in M cs (ys.length*6) w hin (i-ys.length*6) (by omega)
   rw[show ys.length*6+(i-ys.length*6)=i by omega] at this
   rw[this];rfl
  ·rw[World.cell?_setCells_out M _ _ _ _ (fun _ _=>by show i<ys.length*6∨ys.length*6+cs.length≤i;omega)]
   exact(h.room i hi).1
theorem app_cs (w:World) (M j n:Nat) (cs:List Value) (h6:cs.length=6) (h1: ∀u∈cs,u.oneCell'=true) (hj:j<n) (hM:M<w.heap.size) (hr: ∀i,i<n*6→(w.cell? ⟨M,i,none⟩).isSome=true∧w.frozen? ⟨M,i,none⟩=false):
 (Builtin.append_ #[24,24] 24 #[.slice (some ⟨M,0,none⟩) j n, .slice (some ⟨w.heap.size,0,none⟩) 1 1]).run Tryz.prog (w.alloc (.cells cs.toArray 26))= .ok (.slice (some ⟨M,0,none⟩) (j+1) n) ((w.alloc (.cells cs.toArray 26)).setCells M (j*6) cs):=by
 obtain⟨i0,hi0,hz0,hz1,hz2⟩:=info_parts vInfo
 have hb:Below w.heap.size w (w.alloc (.cells cs.toArray 26)):=(Below.refl _ w).alloc (Nat.le_refl _) _
 have:=run_append_room_cells (P:=Tryz.prog) (w.alloc (.cells cs.toArray 26)) 24 24 26 i0 Tryz.underlying24 hi0 M 0 j n ⟨w.heap.size,0,none⟩ 1 1 cs (by rw[hz1];exact h6)
  (fun l u hu=>by
   rw[add_off]
   refine blk_cell (blk_new _ _) l _ ?_
   rw[List.getElem?_toArray]
   exact hu)
  h1 (by omega)
  (fun l hl=>by rw[h6] at hl;rw[hz1,Nat.zero_add,hb.cell (p:=⟨M,j*6+l,none⟩) hM];exact(hr _ (by omega)).1)
  (fun l hl=>by rw[h6] at hl;rw[hz1,Nat.zero_add,hb.frozen (p:=⟨M,j*6+l,none⟩) hM];exact(hr _ (by omega)).2)
 rw[hz1,Nat.zero_add] at this
 exact this
set_option maxRecDepth 100000 in
set_option maxHeartbeats 1000000 in
theorem tellAll_c (n:Nat) (us:List Value) (xs:List VT) (sl:Value) (w:World) (hR:RW w sl us) (hl:us.length=xs.length) (hif: ∀u∈us,∃T x,u= .iface T x) (hT: ∀i (h1:i<us.length) (h2:i<xs.length) W,Below w.heap.size w W→Calls Tryz.prog 40 #[us[i]] W (TellT n W xs[i])) (hn:us.length≤1000000):
 Calls Tryz.prog 71 #[sl] w fun e w'=> ∃ys,e= .returned (.slice (some ⟨w.heap.size,0,none⟩) ys.length ys.length)∧ys.length=us.length∧VN n w w.heap.size us.length xs ys w':=by
 obtain⟨A,c,rfl,hc,hcell⟩:=hR
 obtain⟨i0,hi0,hz0,hz1,hz2⟩:=info_parts vInfo
 have hmk:=fun W=>run_make (P:=Tryz.prog) W 24 26 i0 (.agg #[.int .i64 0, .bool false, .slice none 0 0, .int .u64 0, .string ⟨#[]⟩, .slice none 0 0]) Tryz.underlying24 hi0 hz0 .i64 .i64 0 us.length (by omega) (by omega) (by rw[hz2];omega) (by omega)
 simp only[hz1,Int.toNat_natCast,Int.toNat_zero] at hmk
 have hcl:(Value.agg #[.int .i64 0, .bool false, .slice none 0 0, .int .u64 0, .string ⟨#[]⟩, .slice none 0 0]).cells=#[.int .i64 0, .bool false, .slice none 0 0, .int .u64 0, .string ⟨#[]⟩, .slice none 0 0]:=rfl
 rw[hcl] at hmk
 have HS0:=Lib.hid (vn_start n w us.length #[.int .i64 0, .bool false, .slice none 0 0, .int .u64 0, .string ⟨#[]⟩, .slice none 0 0] 26 xs)
 have HC:=Lib.hid hcell
 have HT:=Lib.hid hT
 have HL:=Lib.hid hl
 have HIF:=Lib.hid hif
 clear hcl hz0 hz1 hz2 hi0 hcell hT hl hif
 go_enter Tryz.func71,Tryz.ntmps71
 go_wp2_with fail
 clear hmk
 go_loopw [3,11] (fun out i wr=> ∃(j:Nat) (ys:List VT),j≤us.length∧i= .int .i64 (j:Int)∧ys.length=j∧out= .slice (some ⟨w.heap.size,0,none⟩) j us.length∧Hid (VN n w w.heap.size us.length xs ys wr)) (fun _ i _=>us.length-(intOf i).toNat)
 case atStart=>exact⟨0,[],Nat.zero_le _,rfl,rfl,rfl,HS0⟩
 case round=>
  obtain⟨j,ys,hj,rfl,hx,rfl,HS⟩:=hrel
  by_cases hlt:j<us.length
  ·have hlx:j<xs.length:=by rw[←HL.out];exact hlt
   obtain⟨M,o,rfl,hcc⟩:=HC.out (by intro e;rw[e] at hlt;simp at hlt)
   have hMr:=HS.out.lt
   have hcw:=(HS.out.low.cell (p:=⟨M,o+j,none⟩) (lt_of_cell (hcc j hlt))).trans (hcc j hlt)
   have HTj:=Lib.hid (HT.out j hlt hlx wr HS.out.low)
   obtain⟨T,x,hTx⟩:=HIF.out _ (List.getElem_mem hlt)
   rw[hTx] at hcw HTj
   have hlt2:(j:Int)<us.length:=by omega
   clear hTx hcc
   go_wp2_with (first
    |(at_builtin;refine wpList_append_run rfl _ _ _ rfl _ _ _ rfl rfl happ.out ?_)
    |(go_at_call 40;(with_reducible refine HTj.out.mono ?_);rintro e w3 ⟨y,A2,c2,A5,c5,rfl,hev,hal,hb3⟩;have HV:=Lib.hid (And.intro hev (And.intro hal hb3));have happ:=Lib.hid (app_cs w3 w.heap.size j us.length (six6 y A2 c2 A5 c5) rfl (kV.K_one hev.k) hlt (Nat.lt_of_lt_of_le hMr hb3.size) (HS.out.below hb3).room);clear hev hal hb3))
   go_roundw
   case rel=>
    subst hx
    obtain⟨hev,hal,hb3⟩:=HV.out
    have hb4:Below w3.heap.size w3 (w3.alloc (.cells (six6 y A2 c2 A5 c5).toArray 26)):=(Below.refl _ _).alloc (Nat.le_refl _) _
    have hq:=((HS.out.below hb3).below hb4).push ((hev.lower hMr).below hb4) (fun _=>hal) hlt
    exact⟨ys.length+1,ys++[y],by omega,by go_num,by simp,rfl,Lib.hid hq⟩
   case measure=>simp[intOf];omega
  ·have hje:j=us.length:=by omega
   subst hje
   go_wp2
   go_ret
   exact⟨ys,by rw[hx];rfl,hx,HS.out⟩
end Go.Proofs.YtkplnbjgkhmbcaaGreatDoor
