/- SlM SlN -/
import Derived.Test.YtkplnbjgkhmbcaaGreatDoorV5
import Derived.OrdersHeld
import Derived.Deep.RegionHeld3
namespace Go.Proofs.YtkplnbjgkhmbcaaGreatDoor
open Go.RowKit Go.Shelf Go.Proofs.YtkplnbjgkhmbcaaGreatDoorW.PrintWords Go.Proofs.YtkplnbjgkhmbcaaGreatDoorW.PrintLast Go.Proofs.YtkplnbjgkhmbcaaGreatDoorW.PrintMore Go.Proofs.YtkplnbjgkhmbcaaGreatDoor.PFnCompare Go.Proofs.YtkplnbjgkhmbcaaGreatDoor.PCmp Go.Proofs.YtkplnbjgkhmbcaaGreatDoor.PbytesOf
set_option linter.unusedVariables false
set_option linter.unusedSimpArgs false
theorem Alike.symm {x y:VT} (h:Alike x y):Alike y x:=
 ⟨h.kind.symm,h.ky,h.kx,h.text.symm,fun k=>(h.bits (by rw[h.kind];exact k)).symm,fun k=>by
  obtain⟨a,b,c,d,e⟩:=h.int (h.kind.trans k)
  exact⟨b,a,c.symm,d.symm,e.symm⟩⟩
theorem AL.symm: ∀{n:Nat} {x y:VT},AL n x y→AL n y x
 |0,x,y,h=>Alike.symm h
 |n+1,x,y,h=>by
  rcases h with h|⟨h6,e0,e4,hl,hn,hk⟩
  ·exact Or.inl h.symm
  ·exact Or.inr ⟨by omega,e0.symm,e4.symm,hl.symm,by omega,fun i h1 h2=>(hk i h2 h1).symm⟩
theorem pkT_step (t:ByteArray) (s st:Int) (q p:Nat) (hp:p<t.size) (hi:s+st*(q:Int)=p):pkT t s st (q+1)=pkT t s st q++t.extract p (p+1):=by
 rw[extract_pk t p (p+1) (by omega) (by omega),show p+1-p=1 by omega]
 have e1:pk 0 t.data.toList (p:Int) 1 1=[t.data.toList.getD p 0]:=by
  have:=pk_succ (0:UInt8) t.data.toList (p:Int) 1 0
  rw[show pk (0:UInt8) t.data.toList (p:Int) 1 0=[] from rfl] at this
  simpa using this
 have e2:=pk_succ (0:UInt8) t.data.toList s st q
 rw[hi,show((p:Nat):Int).toNat=p by omega] at e2
 apply ByteArray.ext
 rw[ByteArray.data_append]
 show(pk 0 t.data.toList s st (q+1)).toArray=(pk 0 t.data.toList s st q).toArray++(pk 0 t.data.toList (p:Int) 1 1).toArray
 rw[e2,e1]
 exact Array.ext' (by simp)
theorem blk_put6 {W:World} {P:Nat} {T:TypeId} {a b c d e f:Value} (h:W.heap[P]?=some (.cells #[a,b,c,d,e,f] T (0,0))) (v0 v1 v2 v3 v4 v5:Value):(put6 W P v0 v1 v2 v3 v4 v5).heap[P]?=some (.cells #[v0,v1,v2,v3,v4,v5] T (0,0)):=by
 have h0:(W.setCell ⟨P,0,none⟩ v0).heap[P]?=some (.cells #[v0,b,c,d,e,f] T (0,0)):=blk_put h 0 _ rfl
 have h1:((W.setCell ⟨P,0,none⟩ v0).setCell ⟨P,1,none⟩ v1).heap[P]?=some (.cells #[v0,v1,c,d,e,f] T (0,0)):=blk_put h0 1 _ rfl
 have h2:(((W.setCell ⟨P,0,none⟩ v0).setCell ⟨P,1,none⟩ v1).setCell ⟨P,2,none⟩ v2).heap[P]?=some (.cells #[v0,v1,v2,d,e,f] T (0,0)):=blk_put h1 2 _ rfl
 have h3:((((W.setCell ⟨P,0,none⟩ v0).setCell ⟨P,1,none⟩ v1).setCell ⟨P,2,none⟩ v2).setCell ⟨P,3,none⟩ v3).heap[P]?=some (.cells #[v0,v1,v2,v3,e,f] T (0,0)):=blk_put h2 3 _ rfl
 have h4:(((((W.setCell ⟨P,0,none⟩ v0).setCell ⟨P,1,none⟩ v1).setCell ⟨P,2,none⟩ v2).setCell ⟨P,3,none⟩ v3).setCell ⟨P,4,none⟩ v4).heap[P]?=some (.cells #[v0,v1,v2,v3,v4,f] T (0,0)):=blk_put h3 4 _ rfl
 exact blk_put h4 5 _ rfl
structure SlX (w:World) (P:Nat) (x:VT) (A2:Option Addr) (c2:Nat) (A5:Option Addr) (c5:Nat) (W:World):Prop where
 low:Below w.heap.size w W
 blk:W.heap[P]?=some (.cells (six5 x A2 c2 A5 x.f5.length c5) 26 (0,0))
 val:VR W (.agg (six5 x A2 c2 A5 x.f5.length c5)) x
 ct:CT 3 x
 k47:4≤x.f0∧x.f0≤7
theorem SlX.below {w W W':World} {P:Nat} {x:VT} {A2:Option Addr} {c2:Nat} {A5:Option Addr} {c5:Nat} (h:SlX w P x A2 c2 A5 c5 W) (hb:Below W.heap.size W W'):SlX w P x A2 c2 A5 c5 W':=
 ⟨h.low.trans (hb.mono h.low.size),blk_below h.blk hb,h.val.below hb,h.ct,h.k47⟩
def abcdef:ByteArray:=⟨#[97,98,99,100,101,102]⟩
theorem SlX.other {w W:World} {P:Nat} {a b c d e f:Value} (hlow:Below w.heap.size w W) (hP:w.heap.size≤P) (hk:W.heap[P]?=some (.cells #[a,b,c,d,e,f] 26 (0,0))):
 SlX w P ⟨5,false,[],0,abcdef,[]⟩ none 0 none 0 (put6 W P (.int .i64 5) (.bool false) (.slice none 0 0) (.int .u64 0) (.string abcdef) (.slice none 0 0)):=
 ⟨below_put6 hlow hP _ _ _ _ _ _,blk_put6 hk _ _ _ _ _ _,(EVn.flat (B:=0) (x:=⟨5,false,[],0,abcdef,[]⟩) (A:=none) (c:=0) Sl.nil rfl 0).vr,CT.sc ⟨.bytes abcdef,canon_flat ⟨by decide,by decide⟩ (by decide) ⟨by decide,by decide⟩ rfl (fun _ h=>absurd rfl h),(by show abcdef.size≤2147483647;decide)⟩ 3,⟨by decide,by decide⟩⟩
theorem slX_ln {w W:World} {P:Nat} {x:VT} {A2:Option Addr} {c2:Nat} {A5:Option Addr} {c5:Nat} (h:SlX w P x A2 c2 A5 c5 W):lnV x≤2147483647:=by
 have h47:=h.k47
 by_cases h5:x.f0≤5
 ·have el:lnV x=x.f4.size:=by unfold lnV;rw[if_pos h5]
  rw[el]
  obtain⟨s0,hs,hf⟩:=h.ct.isSC (by omega)
  have hkd:=hs.kind
  cases s0<;>simp[Sca.kind] at hkd<;>first|(exfalso;omega)|skip
  ·rw[(canon_str hs).2];exact hf
  ·rw[(canon_bytes hs).2];exact hf
 ·have el:lnV x=x.f5.length:=by unfold lnV;rw[if_neg h5]
  rw[el]
  obtain⟨m,_,_,h16,_⟩:=h.ct.isBox (by omega)
  omega
theorem app_val (u W:World) (B:Nat) (v:Value) (ps:List VT) (y:VT) (g c:Nat) (cs:List Value) (hO:OwnRow (kV.K u) 26 6 W B v ps) (hg:W.heap[g]?=some (.cells cs.toArray 26 (0,0))) (hK:kV.K u y cs) (hB:B≤W.heap.size) (hn:ps.length≤1000000):
 ∃v1 w1,(Builtin.append_ #[24,24] 24 #[v, .slice (some ⟨g,0,none⟩) 1 c]).run Tryz.prog W= .ok v1 w1∧(OwnRow (kV.K u) 26 6 w1 B v1 (ps++[y])∧Below B W w1):=by
 obtain⟨i0,hi,hz0,hz1,hz2⟩:=info_parts vInfo
 obtain⟨inner,hown,hr⟩:=hO
 have h6:cs.length=6:=kV.K_len hK
 have hcell: ∀j v,cs[j]?=some v→W.cell? ((⟨g,0,none⟩:Addr).add j)=some v:=fun j v hj=>by
  rw[add_off]
  refine blk_cell hg j _ ?_
  rw[List.getElem?_toArray]
  exact hj
 have hR2:ReadsRow (kV.K u) 6 W (some ⟨g,0,none⟩) 1 [y]:=⟨rfl,by omega,fun _=>⟨_,rfl,fun j p hj=>by
  cases j with
  |zero=>
   obtain rfl:y=p:=by simpa using hj
   exact⟨cs,h6,hK,fun i v hi=>by rw[Nat.zero_mul,Nat.zero_add];exact hcell i v hi⟩
  |succ j=>simp at hj⟩⟩
 obtain⟨news,hnr,hnc⟩:=ReadsRow.inner_ hR2
 have hone: ∀u∈news,u.oneCell'=true:=by
  intro u hu
  obtain⟨q,hq,rfl⟩:=List.mem_iff_getElem.1 hu
  have hql:q/6<[y].length:=by
   rw[Nat.div_lt_iff_lt_mul (by omega),←hnr.1]
   exact hq
  have hc:=hnr.2 (q/6) _ (List.getElem?_eq_getElem hql)
  refine kV.K_one hc _ ?_
  rw[List.mem_iff_getElem?]
  refine⟨q%6,?_⟩
  rw[List.getElem?_take,if_pos (Nat.mod_lt _ (by omega)),List.getElem?_drop,Nat.mul_comm,Nat.div_add_mod,List.getElem?_eq_getElem hq]
 obtain⟨v1,w1,hrun,h2,hg2,_,hat⟩:=run_append_own_at (P:=Tryz.prog) W B 24 24 26 i0 _ 6 88 Tryz.underlying24 hi hz0 hz1 hz2 rfl (by omega) v ps.length inner hown ⟨g,0,none⟩ 1 c news (by rw[hnr.1];rfl) hnc hone (by simp only[maxLen];omega) (by omega) hB
 exact⟨v1,w1,hrun,⟨inner++news,by rw[List.length_append];exact h2,Kd.reps_append hr hnr⟩,(Below.refl B W).grown hg2 hB (own_base hown)⟩
structure LBk (u:World) (k:Int) (ps:List VT) (v:Value) (W:World):Prop where
 low:Below u.heap.size u W
 blk:W.heap[u.heap.size]?=some (.cells #[.int .i64 k, .bool false, .slice none 0 0, .int .u64 0, .string ⟨#[]⟩,v] 26 (0,0))
 row:OwnRow (kV.K u) 26 6 W (u.heap.size+1) v ps
structure LS (u:World) (k:Int) (t:ByteArray) (W:World):Prop where
 low:Below u.heap.size u W
 blk:W.heap[u.heap.size]?=some (.cells #[.int .i64 k, .bool false, .slice none 0 0, .int .u64 0, .string t, .slice none 0 0] 26 (0,0))
theorem LS.step {u W:World} {k:Int} {t:ByteArray} (h:LS u k t W) (t':ByteArray):LS u k t' ((W.setCell ⟨u.heap.size,4,none⟩ (.string t')).drew):=
 ⟨(h.low.setCell (p:=⟨u.heap.size,4,none⟩) (Nat.le_refl _) _).drew,blk_put h.blk 4 _ rfl⟩
theorem LBk.step {u W W1:World} {k:Int} {ps ps':List VT} {v v':Value} (h:LBk u k ps v W) (hb:Below (u.heap.size+1) W W1) (hO:OwnRow (kV.K u) 26 6 W1 (u.heap.size+1) v' ps'):LBk u k ps' v' (W1.setCell ⟨u.heap.size,5,none⟩ v'):=by
 have hk:W1.heap[u.heap.size]?=some (.cells #[.int .i64 k, .bool false, .slice none 0 0, .int .u64 0, .string ⟨#[]⟩,v] 26 (0,0)):=(hb.block _ (Nat.lt_succ_self _)).trans h.blk
 refine⟨(h.low.trans (hb.mono (Nat.le_succ _))).setCell (p:=⟨u.heap.size,5,none⟩) (Nat.le_refl _) _,blk_put hk 5 _ rfl,?_⟩
 exact ownRow_far hO (p:=⟨u.heap.size,5,none⟩) (Nat.lt_succ_self _) v'
theorem LBk.vr {u W:World} {k:Int} {ps:List VT} {v:Value} (h:LBk u k ps v W): ∃A c,v= .slice A ps.length c∧VR W (.agg #[.int .i64 k, .bool false, .slice none 0 0, .int .u64 0, .string ⟨#[]⟩,v]) ⟨k,false,[],0,⟨#[]⟩,ps⟩:=by
 obtain⟨A,c,rfl,hle,hC⟩:=ownRow_reads h.row h.low
 refine⟨A,c,rfl,_,rfl,?_⟩
 exact k26_mk W ⟨k,false,[],0,⟨#[]⟩,ps⟩ (A2:=none) (c2:=0) (Nat.le_refl _) ⟨rfl,by simp,fun h=>by simp at h⟩ hle hC
theorem LS.vr {u W:World} {k:Int} {t:ByteArray} (h:LS u k t W):VR W (.agg #[.int .i64 k, .bool false, .slice none 0 0, .int .u64 0, .string t, .slice none 0 0]) ⟨k,false,[],0,t,[]⟩:=
 (EVn.flat (w:=W) (B:=0) (x:=⟨k,false,[],0,t,[]⟩) (A:=none) (c:=0) Sl.nil rfl 0).vr
end Go.Proofs.YtkplnbjgkhmbcaaGreatDoor
namespace Go.Proofs.YtkplnbjgkhmbcaaGreatDoor
open Go.RowKit Go.Shelf Go.Proofs.YtkplnbjgkhmbcaaGreatDoorW.PrintWords Go.Proofs.YtkplnbjgkhmbcaaGreatDoorW.PrintLast Go.Proofs.YtkplnbjgkhmbcaaGreatDoorW.PrintMore Go.Proofs.YtkplnbjgkhmbcaaGreatDoor.PFnCompare Go.Proofs.YtkplnbjgkhmbcaaGreatDoor.PCmp Go.Proofs.YtkplnbjgkhmbcaaGreatDoor.PbytesOf
set_option linter.unusedVariables false
set_option linter.unusedSimpArgs false
theorem vr_k {w:World} {x:VT} {cs:List Value} (h:VR w (.agg cs.toArray) x):kV.K w x cs:=by
 obtain⟨cs',e,h⟩:=h
 have:=congrArg Array.toList (Value.agg.inj e)
 simp only[List.toList_toArray] at this
 rw[this]
 exact h
theorem vr_kids {w:World} {x:VT} {A2:Option Addr} {c2:Nat} {A5:Option Addr} {c5:Nat} (h:VR w (.agg (six5 x A2 c2 A5 x.f5.length c5)) x):kV.C w A5 x.f5.length x.f5:=by
 obtain⟨B2,d2,B5,d5,e,_,_,_,hC⟩:=h.open
 simp only[six5,Value.agg.injEq,Array.mk.injEq,List.cons.injEq,Value.slice.injEq,and_true,true_and] at e
 obtain⟨_,rfl,_⟩:=e
 exact hC
theorem ownRow_below {u W W':World} {B:Nat} {v:Value} {ps:List VT} (h:OwnRow (kV.K u) 26 6 W B v ps) (hb:Below W.heap.size W W'):OwnRow (kV.K u) 26 6 W' B v ps:=by
 obtain⟨inner,ho,hr⟩:=h
 exact⟨inner,pw_own_below ho hb,hr⟩
set_option maxRecDepth 100000 in
set_option maxHeartbeats 4000000 in
theorem lawSlice_c (a b c:Int) (x:VT) (A2:Option Addr) (c2:Nat) (A5:Option Addr) (n5 c5:Nat) (w:World) (h:RawN 3 w x A2 c2 A5 n5 c5) (hT:Thr w) (hL:Lim w):
 Calls Tryz.prog 6 #[.agg (six5 x A2 c2 A5 n5 c5), .int .i64 a, .int .i64 b, .int .i64 c] w fun e w'=>e= .returned (.bool true)∧Below w.heap.size w w':=by
 obtain⟨W0,hW0⟩: ∃W,W=w.alloc (.cells (six5 x A2 c2 A5 n5 c5) 26):=⟨_,rfl⟩
 have HB0:Hid (Below w.heap.size w W0):=by rw[hW0];exact Lib.hid ((Below.refl _ w).alloc (Nat.le_refl _) _)
 have HK0:Hid (W0.heap[w.heap.size]?=some (.cells (six5 x A2 c2 A5 n5 c5) 26 (0,0))):=by rw[hW0];exact Lib.hid (blk_new _ _)
 have HC:Hid (∀W,Below w.heap.size w W→Calls Tryz.prog 9 #[.agg (six5 x A2 c2 A5 n5 c5), .int .i64 3] W (CleanN 3 W)):=Lib.hid (fun W (hW:Below w.heap.size w W)=>cleanTree_c 3 (by omega) x A2 c2 A5 n5 c5 W (h.below hW))
 have HTL:Hid (∀W,Below w.heap.size w W→Thr W∧Lim W):=Lib.hid fun W hW=>⟨hT.below hW,hL.below hW⟩
 clear h hT hL
 go_enter Tryz.func6,Tryz.ntmps6
 go_wp2_with fail
 rw[←hW0]
 clear hW0
 obtain⟨z0,z1,z2,z3,z4,z5⟩:=cells6 HK0.out
 go_upto_region 4 with(first|(go_at_call 8;(with_reducible refine(fitsV_c _ _ _ _ _ _ _ _ _ _ _).mono ?_);rintro e w1 ⟨⟨r,rfl⟩,hb1⟩;have H1:=Lib.hid (And.intro (HB0.out.trans (hb1.mono HB0.out.size)) (blk_below HK0.out hb1));clear hb1 z0 z1 z2 z3 z4 z5;obtain⟨z0,z1,z2,z3,z4,z5⟩:=cells6 H1.out.2;cases r)|(go_at_call 9;(with_reducible refine(HC.out _ H1.out.1).mono ?_);rintro e w2 ⟨cs,y,rfl,hM,hct,hb2⟩;have HM:=Lib.hid hM;have HCT:=Lib.hid hct;have HB2:=Lib.hid (H1.out.1.trans (hb2.mono H1.out.1.size));clear hM hct hb2 z0 z1 z2 z3 z4 z5;obtain⟨P2,p2,P5,p5,hcs,hM⟩:=vm_shape ⟨cs,rfl,HM.out⟩;obtain rfl:cs=_:=congrArg Array.toList (Value.agg.inj hcs);have HM2:=Lib.hid hM;clear hM hcs HM))
 all_goals first|(go_ret;exact⟨rfl,H1.out.1⟩)|skip
 obtain⟨W,hW⟩: ∃W,W=w2.alloc (.cells (six5 y P2 p2 P5 y.f5.length p5) 26):=⟨_,rfl⟩
 have HX:Hid (Kept w2 y P2 P5 p2 p5 W):=by rw[hW];exact Lib.hid (keptA HM2.out)
 rw[←hW]
 clear hW
 have HB3:Hid (Below w.heap.size w W):=Lib.hid (HB2.out.trans (HX.out.low.mono HB2.out.size))
 obtain⟨z0,z1,z2,z3,z4,z5⟩:=cells6 HX.out.blk
 have zf:=fun o=>blk_free HX.out.blk o
 go_cut [26] (fun a wx=>a= .bool (decide (¬(4≤y.f0∧y.f0≤7)))∧wx=W)
 case first=>
  by_cases h4:y.f0<4
  ·go_wp2
   go_meet
   exact⟨congrArg Value.bool (decide_eq_true (by omega)).symm,rfl⟩
  ·by_cases h7:7<y.f0
   ·go_wp2
    go_meet
    exact⟨congrArg Value.bool (decide_eq_true (by omega)).symm,rfl⟩
   ·go_wp2
    go_meet
    exact⟨congrArg Value.bool (decide_eq_false (by omega)).symm,rfl⟩
 case rest=>
  obtain⟨rfl,rfl⟩:=hcut
  go_upto_if 26 with fail
  go_cut [9] (fun q wx=>q= .pointer (some ⟨w2.heap.size,0,none⟩)∧ ∃x' Q2 q2 Q5 q5,Hid (SlX w w2.heap.size x' Q2 q2 Q5 q5 wx))
  case first=>
   by_cases h47:4≤y.f0∧y.f0≤7
   ·have hd:decide (¬(4≤y.f0∧y.f0≤7))=false:=decide_eq_false (fun h=>h h47)
    rw[hd]
    go_wp2
    go_meet
    exact⟨rfl,y,P2,p2,P5,p5,Lib.hid ⟨HB3.out,HX.out.blk,HX.out.val,HCT.out,h47⟩⟩
   ·have hd:decide (¬(4≤y.f0∧y.f0≤7))=true:=decide_eq_true h47
    rw[hd]
    go_wp2
    go_meet
    exact⟨rfl,_,_,_,_,_,Lib.hid (SlX.other HB3.out HB2.out.size HX.out.blk)⟩
  case rest=>
   obtain⟨rfl,x',Q2,q2,Q5,q5,HS⟩:=hcut
   clear z0 z1 z2 z3 z4 z5 zf
   obtain⟨z0,z1,z2,z3,z4,z5⟩:=cells6 HS.out.blk
   have HLn:=Lib.hid (slX_ln HS.out)
   have HLen:=Lib.hid (specLength_c x' Q2 Q5 q2 q5 wc HS.out.k47)
   have HSl:Hid (∀(s f st:Int) (V:World),EndsOk (lnV x') s f st→Below wc.heap.size wc V→Calls Tryz.prog 17 #[.agg (six5 x' Q2 q2 Q5 x'.f5.length q5), .int .i64 s, .int .i64 f, .int .i64 st] V (SliceR 3 x' s f st V)):=Lib.hid fun s f st V hE hV=>implSlice_c 3 (by omega) x' Q2 q2 Q5 q5 V s f st (HS.out.val.below hV) HS.out.ct HS.out.k47 hE HLn.out (HTL.out _ (HS.out.low.trans (hV.mono HS.out.low.size))).1 (HTL.out _ (HS.out.low.trans (hV.mono HS.out.low.size))).2
   go_upto_region 7 with(first
    |(go_at_call 16;(with_reducible refine HLen.out.mono ?_);rintro e w3 ⟨rfl,hb3⟩;have HB4:=Lib.hid hb3;clear hb3 z0 z1 z2 z3 z4 z5;obtain⟨z0,z1,z2,z3,z4,z5⟩:=cells6 (blk_below HS.out.blk HB4.out))
    |(go_at_call 15;(with_reducible refine(ends_c (lnV x') HLn.out _ _ _ _).mono ?_);rintro e w4 ⟨⟨s,f,st,rfl,hE⟩,hw⟩;have hw2:=hw.symm;clear hw;subst hw2;have HE:=Lib.hid hE;clear hE))
   go_upto_region 8 with(go_at_call 17;(with_reducible refine(HSl.out _ _ _ _ HE.out HB4.out).mono ?_);rintro e w5 ⟨y1,T2,m2,T5,m5,k,rfl,hS,hv1,hal,hb5⟩;have H5:=Lib.hid (And.intro hS (And.intro hv1 (And.intro hal (HB4.out.trans (hb5.mono HB4.out.size)))));clear hS hv1 hal hb5 z0 z1 z2 z3 z4 z5)
   obtain⟨u,hu⟩: ∃u,u=w5.alloc (.cells (six5 y1 T2 m2 T5 y1.f5.length m5) 26):=⟨_,rfl⟩
   have hb6:Below w5.heap.size w5 u:=by rw[hu];exact(Below.refl _ _).alloc (Nat.le_refl _) _
   have hy:u.heap[w5.heap.size]?=some (.cells (six5 y1 T2 m2 T5 y1.f5.length m5) 26 (0,0)):=by rw[hu];exact blk_new _ _
   have HU:Hid (SlX w w2.heap.size x' Q2 q2 Q5 q5 u∧VR u (.agg (six5 y1 T2 m2 T5 y1.f5.length m5)) y1∧u.heap[w5.heap.size]?=some (.cells (six5 y1 T2 m2 T5 y1.f5.length m5) 26 (0,0))):=Lib.hid ⟨HS.out.below (H5.out.2.2.2.trans (hb6.mono H5.out.2.2.2.size)),H5.out.2.1.below hb6,hy⟩
   rw[←hu]
   clear hu hb6 hy
   obtain⟨z0,z1,z2,z3,z4,z5⟩:=cells6 HU.out.1.blk
   have hsg:(0<st∧ ¬st<0)∨(¬0<st∧st<0):=by rcases HE.out with h|h<;>omega
   have hbU:=HU.out.1.low
   go_wp2_with fail
   obtain⟨V,hV⟩: ∃V,V=u.alloc (.cells #[.int .i64 x'.f0, .bool false, .slice none 0 0, .int .u64 0, .string ⟨#[]⟩, .slice none 0 0] 26):=⟨_,rfl⟩
   have hVb:Below u.heap.size u V:=by rw[hV];exact(Below.refl _ _).alloc (Nat.le_refl _) _
   have hVk:V.heap[u.heap.size]?=some (.cells #[.int .i64 x'.f0, .bool false, .slice none 0 0, .int .u64 0, .string ⟨#[]⟩, .slice none 0 0] 26 (0,0)):=by rw[hV];exact blk_new _ _
   rw[←hV]
   clear hV z0 z1 z2 z3 z4 z5
   by_cases h5:x'.f0≤5
   ·have el:lnV x'=x'.f4.size:=by unfold lnV;rw[if_pos h5]
    have HEl:Hid (EndsOk x'.f4.size s f st):=by rw[←el];exact HE
    have hsz:(x'.f4.size:Int)≤2147483647:=by have:=HLn.out;omega
    have HV:Hid (LS u x'.f0 (pkT x'.f4 s st 0) V):=Lib.hid ⟨hVb,hVk⟩
    clear hVb hVk el
    go_loopw [13] (fun i wr=> ∃q:Nat,i= .int .i64 (s+st*q)∧Hid (∀p:Nat,p<q→inR f st (s+st*p))∧Hid (LS u x'.f0 (pkT x'.f4 s st q) wr)) (fun i _=>mes f st (intOf i))
    case atStart=>exact⟨0,by simp,Lib.hid fun p h=>absurd h (Nat.not_lt_zero _),HV⟩
    case round=>
     obtain⟨q,rfl,HQ,HT⟩:=hrel
     obtain⟨i,hi⟩: ∃i,s+st*(q:Int)=i:=⟨_,rfl⟩
     rw[hi]
     obtain⟨r0,r1,r2,r3,r4,r5⟩:=cells6 HT.out.blk
     have rf:=fun o=>blk_free HT.out.blk o
     obtain⟨z0,z1,z2,z3,z4,z5⟩:=cells6 (blk_below HU.out.1.blk HT.out.low)
     by_cases hin:inR f st i
     ·have hrange:=ends_in HEl.out q (by rw[hi];exact hin)
      rw[hi] at hrange
      obtain⟨p,rfl⟩: ∃p:Nat,i=p:=⟨i.toNat,by omega⟩
      have hp:p<x'.f4.size:=by omega
      have hpz:(p:Int)<x'.f4.size:=by omega
      have hpz1:(p:Int)+1≤x'.f4.size:=by omega
      have hst5: -4≤st∧st≤5:=by rcases HEl.out with h|h<;>omega
      have e1:wrap64 ((p:Int)+1)=p+1:=by unfold wrap64;omega
      have e2:wrap64 ((p:Int)+st)=p+st:=by unfold wrap64;omega
      have hq9:=ends_q HEl.out q (by rw[hi];exact hin)
      have g1:(pkT x'.f4 s st q).size=q:=pkT_size _ _ _ _
      have g2:(x'.f4.extract p (p+1)).size=1:=by rw[ByteArray.size_extract];omega
      have g3: ¬(9223372036854775807<q+1):=by omega
      have g4: ¬(9223372036854775807<(pkT x'.f4 s st q).size+(x'.f4.extract p (p+1)).size):=by rw[g1,g2];exact g3
      have HIN:=Lib.hid hin
      have HHI:=Lib.hid hi
      have HR2:=Lib.hid (HT.out.step (pkT x'.f4 s st q++x'.f4.extract p (p+1)))
      have hcond:(0<st∧ ¬st<0∧(p:Int)<f)∨(¬0<st∧st<0∧f<(p:Int)):=by unfold inR at hin;omega
      clear hin hi hsg
      rcases hcond with⟨s1,s2,s3⟩|⟨s1,s2,s3⟩
      all_goals
       go_upto_region 13 with fail
       go_region
       go_wp2
       go_roundw
       case rel=>
        refine⟨q+1,?_,Lib.hid (fun j hj=>?_),Lib.hid ?_⟩
        ·rw[kth_succ,HHI.out]
        ·by_cases h9:j<q
         ·exact HQ.out j h9
         ·obtain rfl:j=q:=by omega
          rw[HHI.out];exact HIN.out
        ·rw[pkT_step x'.f4 s st q p hp HHI.out];exact HR2.out
       case measure=>exact mes_step HEl.out HIN.out
     ·have hkq:k=q:=H5.out.1.one ⟨HQ.out,by rw[hi];exact hin⟩
      have HSm:Hid (Calls Tryz.prog 18 #[.agg (six5 y1 T2 m2 T5 y1.f5.length m5), .agg #[.int .i64 x'.f0, .bool false, .slice none 0 0, .int .u64 0, .string (pkT x'.f4 s st q), .slice none 0 0]] wr fun e w'=>e= .returned (.bool true)∧Below wr.heap.size wr w'):=Lib.hid (sameT_c 3 y1 (slT x' s st q) _ _ wr (by rw[←hkq];exact H5.out.2.2.1.symm) (HU.out.2.1.below HT.out.low) (by rw[slT_txt h5];exact HT.out.vr))
      obtain⟨v0,v1,v2,v3,v4,v5⟩:=cells6 (blk_below HU.out.2.2 HT.out.low)
      have hlow:=HT.out.low
      have HF:Hid (∀W,Below wr.heap.size wr W→Below w.heap.size w W):=Lib.hid fun W hW=>(hbU.trans (hlow.mono hbU.size)).trans (hW.mono (Nat.le_trans hbU.size hlow.size))
      have hcond:(0<st∧ ¬st<0∧ ¬i<f)∨(¬0<st∧st<0∧ ¬f<i):=by unfold inR at hin;omega
      clear hin hi hsg hkq hlow hbU
      rcases hcond with⟨s1,s2,s3⟩|⟨s1,s2,s3⟩
      all_goals
       go_wp2_with (go_at_call 18;(with_reducible refine HSm.out.mono ?_);rintro e w6 ⟨rfl,hb6⟩;have HB6:=Lib.hid (HF.out _ hb6);clear hb6)
       go_ret
       exact⟨rfl,HB6.out⟩
   ·have el:lnV x'=x'.f5.length:=by unfold lnV;rw[if_neg h5]
    have HEl:Hid (EndsOk x'.f5.length s f st):=by rw[←el];exact HE
    have h16:x'.f5.length≤16:=by obtain⟨m,_,_,h16,_⟩:=HU.out.1.ct.isBox (by omega);exact h16
    have hsz:(x'.f5.length:Int)≤2147483647:=by omega
    have HV:Hid (LBk u x'.f0 (pk zVT x'.f5 s st 0) (.slice none 0 0) V):=Lib.hid ⟨hVb,hVk,OwnRow.none_ _ _ _ _ _⟩
    have HKid:=Lib.hid (fun p hp=>kid_at (vr_kids HU.out.1.val) p hp rfl)
    clear hVb hVk el
    go_loopw [13] (fun i wr=> ∃(q:Nat) (v:Value),i= .int .i64 (s+st*q)∧Hid (∀p:Nat,p<q→inR f st (s+st*p))∧Hid (LBk u x'.f0 (pk zVT x'.f5 s st q) v wr)) (fun i _=>mes f st (intOf i))
    case atStart=>exact⟨0,_,by simp,Lib.hid fun p h=>absurd h (Nat.not_lt_zero _),HV⟩
    case round=>
     obtain⟨q,v,rfl,HQ,HT⟩:=hrel
     obtain⟨i,hi⟩: ∃i,s+st*(q:Int)=i:=⟨_,rfl⟩
     rw[hi]
     obtain⟨r0,r1,r2,r3,r4,r5⟩:=cells6 HT.out.blk
     have rf:=fun o=>blk_free HT.out.blk o
     obtain⟨z0,z1,z2,z3,z4,z5⟩:=cells6 (blk_below HU.out.1.blk HT.out.low)
     by_cases hin:inR f st i
     ·have hrange:=ends_in HEl.out q (by rw[hi];exact hin)
      rw[hi] at hrange
      obtain⟨p,rfl⟩: ∃p:Nat,i=p:=⟨i.toNat,by omega⟩
      have hp:p<x'.f5.length:=by omega
      have hpz:(p:Int)<x'.f5.length:=by omega
      have hst5: -4≤st∧st≤5:=by rcases HEl.out with h|h<;>omega
      have e2:wrap64 ((p:Int)+st)=p+st:=by unfold wrap64;omega
      have hq9:=ends_q HEl.out q (by rw[hi];exact hin)
      obtain⟨bk,ok,A2,n2,A5,n5,hQ5,hbk,k0,k1,k2,k3,k4,k5,hVR⟩:=HKid.out p hp
      subst hQ5
      have hB:=HT.out.low
      have x0:=(hB.cell (p:=⟨bk,ok+p*6,none⟩) hbk).trans k0
      have x1:=(hB.cell (p:=⟨bk,ok+p*6+1,none⟩) hbk).trans k1
      have x2:=(hB.cell (p:=⟨bk,ok+p*6+2,none⟩) hbk).trans k2
      have x3:=(hB.cell (p:=⟨bk,ok+p*6+3,none⟩) hbk).trans k3
      have x4:=(hB.cell (p:=⟨bk,ok+p*6+4,none⟩) hbk).trans k4
      have x5:=(hB.cell (p:=⟨bk,ok+p*6+5,none⟩) hbk).trans k5
      have hKp:kV.K u x'.f5[p] (six6 x'.f5[p] A2 n2 A5 n5):=vr_k hVR
      have hlt:u.heap.size<wr.heap.size:=lt_of_cell r0
      have hpk:pk zVT x'.f5 s st (q+1)=pk zVT x'.f5 s st q++[x'.f5[p]]:=by
       rw[pk_succ,hi,show((p:Nat):Int).toNat=p by omega,List.getD_eq_getElem?_getD,List.getElem?_eq_getElem hp]
       rfl
      have HA:Hid (∀W,W.heap[wr.heap.size]?=some (.cells #[.int .i64 x'.f5[p].f0, .bool x'.f5[p].f1, .slice A2 x'.f5[p].f2.length n2, .int .u64 x'.f5[p].f3, .string x'.f5[p].f4, .slice A5 x'.f5[p].f5.length n5] 26 (0,0))→Below wr.heap.size wr W→ ∃v1 w1,(Builtin.append_ #[24,24] 24 #[v, .slice (some ⟨wr.heap.size,0,none⟩) 1 1]).run Tryz.prog W= .ok v1 w1∧(OwnRow (kV.K u) 26 6 w1 (u.heap.size+1) v1 (pk zVT x'.f5 s st (q+1))∧Below (u.heap.size+1) wr w1)):=Lib.hid fun W hW hbW=>by
       obtain⟨v1,w1,h1,h2,h3⟩:=app_val u W (u.heap.size+1) v (pk zVT x'.f5 s st q) x'.f5[p] wr.heap.size 1 (six6 x'.f5[p] A2 n2 A5 n5) (ownRow_below HT.out.row hbW) hW hKp (Nat.le_trans hlt hbW.size) (by rw[pk_len];omega)
       exact⟨v1,w1,h1,by rw[hpk];exact h2,(hbW.mono hlt).trans h3⟩
      have HIN:=Lib.hid hin
      have HHI:=Lib.hid hi
      have hcond:(0<st∧ ¬st<0∧(p:Int)<f)∨(¬0<st∧st<0∧f<(p:Int)):=by unfold inR at hin;omega
      have y5: ∀o,(wr.drew.alloc o).cell? ⟨u.heap.size,5,none⟩=some v:=fun o=>(((Below.refl _ wr).drew.alloc (Nat.le_refl _) o).cell (p:=⟨u.heap.size,5,none⟩) hlt).trans r5
      clear hin hi hsg k0 k1 k2 k3 k4 k5 hVR hB hKp hpk
      rcases hcond with⟨s1,s2,s3⟩|⟨s1,s2,s3⟩
      all_goals
       go_upto_region 14 with fail
       go_region_law (refine step_append_ex rfl (.tmp 83) (.tmp 89) 24 rfl _ _ (by simp[Act.eval,Act.put]) (by simp[Act.eval,Act.put]) (HA.out _ (by first|exact blk_new _ _|exact blk_new wr.drew _) (by first|exact(Below.refl _ wr).drew.alloc (Nat.le_refl _) _|exact((Below.refl _ wr).alloc (Nat.le_refl _) _).drew)) ?_;intro v1 w1 ho1;obtain⟨Av,cv,rfl,_⟩:=OwnRow.reads ho1.1;have HO1:=Lib.hid ho1;have q5:=(ho1.2.cell (p:=⟨u.heap.size,5,none⟩) (Nat.lt_succ_self _)).trans r5;have qf:=(ho1.2.frozen (p:=⟨u.heap.size,5,none⟩) (Nat.lt_succ_self _)).trans (rf 5);clear ho1)
       all_goals go_wp2
       all_goals go_roundw
       all_goals first
        |exact mes_step HEl.out HIN.out
        |(refine⟨q+1,_,?_,Lib.hid (fun j hj=>?_),Lib.hid (HT.out.step HO1.out.2 HO1.out.1)⟩
          ·rw[kth_succ,HHI.out]
          ·by_cases h9:j<q
           ·exact HQ.out j h9
           ·obtain rfl:j=q:=by omega
            rw[HHI.out];exact HIN.out)
     ·have hkq:k=q:=H5.out.1.one ⟨HQ.out,by rw[hi];exact hin⟩
      obtain⟨Av,cv,rfl,hvr⟩:=HT.out.vr
      have HSm:Hid (Calls Tryz.prog 18 #[.agg (six5 y1 T2 m2 T5 y1.f5.length m5), .agg #[.int .i64 x'.f0, .bool false, .slice none 0 0, .int .u64 0, .string ⟨#[]⟩, .slice Av (pk zVT x'.f5 s st q).length cv]] wr fun e w'=>e= .returned (.bool true)∧Below wr.heap.size wr w'):=Lib.hid (sameT_c 3 y1 (slT x' s st q) _ _ wr (by rw[←hkq];exact H5.out.2.2.1.symm) (HU.out.2.1.below HT.out.low) (by rw[slT_box h5];exact hvr))
      obtain⟨v0,v1,v2,v3,v4,v5⟩:=cells6 (blk_below HU.out.2.2 HT.out.low)
      have hlow:=HT.out.low
      have HF:Hid (∀W,Below wr.heap.size wr W→Below w.heap.size w W):=Lib.hid fun W hW=>(hbU.trans (hlow.mono hbU.size)).trans (hW.mono (Nat.le_trans hbU.size hlow.size))
      have hcond:(0<st∧ ¬st<0∧ ¬i<f)∨(¬0<st∧st<0∧ ¬f<i):=by unfold inR at hin;omega
      clear hin hi hsg hkq hlow hbU hvr
      rcases hcond with⟨s1,s2,s3⟩|⟨s1,s2,s3⟩
      all_goals
       go_wp2_with (go_at_call 18;(with_reducible refine HSm.out.mono ?_);rintro e w6 ⟨rfl,hb6⟩;have HB6:=Lib.hid (HF.out _ hb6);clear hb6)
       go_ret
       exact⟨rfl,HB6.out⟩
end Go.Proofs.YtkplnbjgkhmbcaaGreatDoor
