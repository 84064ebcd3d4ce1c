/- HtB -/
import Derived.Test.YtkplnbjgkhmbcaaGreatDoorU15
import Derived.WalkMore
import Derived.Deep.DeepCutAuto
import Derived.Deep.RegionHeld3
namespace Go.Proofs.YtkplnbjgkhmbcaaGreatDoor
open Go.RowKit Go.Shelf Go.Proofs.YtkplnbjgkhmbcaaGreatDoorW.PrintWords Go.Proofs.YtkplnbjgkhmbcaaGreatDoorW.PrintLast Go.Proofs.YtkplnbjgkhmbcaaGreatDoorW.PrintMore Go.Proofs.YtkplnbjgkhmbcaaGreatDoor.PFnCompare Go.Proofs.YtkplnbjgkhmbcaaGreatDoor.PCmp Go.Proofs.YtkplnbjgkhmbcaaGreatDoor.PbytesOf
set_option linter.unusedVariables false
set_option linter.unusedSimpArgs false
theorem tabSome (a:Addr) (n c:Nat) (w:World):(binOp .eql 168 (.slice (some a) n c) (.slice none 0 0)).run Tryz.prog w= .ok (.bool false) w:=by kernel_rfl
theorem tabNone (w:World):(binOp .eql 168 (.slice none 0 0) (.slice none 0 0)).run Tryz.prog w= .ok (.bool true) w:=by kernel_rfl
theorem and0 (x:Int):bits .and .u32 x 0=0:=by
 unfold bits
 have h:BitVec.ofInt IntKind.u32.bits 0=0#IntKind.u32.bits:=rfl
 simp only[h,BitVec.and_zero]
 rfl
def insV (g k i:Nat):Value:=if i=0 then .pointer none else .pointer (some ⟨g,1+min (i-1) (7-k)*5,none⟩)
theorem insV_new (g k i:Nat) (h:i≤7-k):insV g k (i+1)= .pointer (some ⟨g,1+i*5,none⟩):=by
 unfold insV
 rw[if_neg (by omega),show i+1-1=i by omega,Nat.min_eq_left h]
theorem insV_old (g k i:Nat) (h: ¬i≤7-k):insV g k (i+1)=insV g k i:=by
 unfold insV
 rw[if_neg (by omega),if_neg (by omega),show i+1-1=i by omega,Nat.min_eq_right (by omega),Nat.min_eq_right (by omega)]
theorem insV_end (g k:Nat):insV g k 8= .pointer (some ⟨g,1+(7-k)*5,none⟩):=by
 unfold insV
 rw[if_neg (by decide),Nat.min_eq_right (by omega)]
theorem below_glue {w0 w w1:World} {B:Nat} (h:Below B w0 w) (hb:Below w.heap.size w w1) (hB:B≤w.heap.size):Below B w0 w1:=h.trans (hb.mono hB)
set_option maxRecDepth 100000 in
set_option maxHeartbeats 1000000 in
theorem insert_c (g:Nat) (T:TypeId) (es:List HEnt) (TK TV:TypeId) (kx vx:Value) (h:Int) (w0 w:World) (hg:w0.heap.size≤g) (hb0:Below w0.heap.size w0 w) (ht:HTab w g T (!es.isEmpty) es 0) (hk:es.length<8)
 (hH:HashC w0 (.iface TK kx) h) (hI: ∀j (hj:j<es.length),(∃T x,es[j].k= .iface T x)∧ ¬es[j].h=0)
 (hE: ∀j (hj:j<es.length),es[j].h=(if h=0 then 1 else h)→ ∀W,Below w0.heap.size w0 W→Calls Tryz.prog 121 #[.iface TK kx,es[j].k] W fun e W'=>e= .returned (.tuple #[.bool false, .nilIface])∧Below W.heap.size W W'):
 Calls Tryz.prog 131 #[.pointer (some ⟨g,0,none⟩), .iface TK kx, .iface TV vx] w fun e w'=>e= .returned .nilIface∧HTab w' g T true (es++[⟨if h=0 then 1 else h, .iface TK kx, .iface TV vx⟩]) 0∧Below g w w':=by
 obtain⟨T',x',K,e,⟨hm,he⟩,hc⟩:=hH
 cases e
 have HC:=Lib.hid hc
 have HM:=Lib.hid (fun s=>htMutable_c g T (!es.isEmpty) es s w ht)
 have HE:=Lib.hid (And.intro hE hI)
 obtain⟨hh,hhh⟩: ∃hh,(if h=0 then 1 else h)=hh:=⟨_,rfl⟩
 have hh0: ¬hh=0:=by rw[←hhh];split<;>omega
 rw[hhh] at HE⊢
 have HHH:=Lib.hid hhh
 have HB0:=Lib.hid hb0
 have hts:=tabSome
 have htn:=tabNone
 have hand:=and0 hh
 have hq0:((0:Int) !=hh)=true:=by simp;exact fun e=>hh0 e.symm
 have HG:=Lib.hid hg
 by_cases hne:es=[]
 ·have hz:es.length=0:=by rw[hne];rfl
  have HZ:=Lib.hid hz
  have ht':HTab w g T false es 0:=by rw[hne] at ht⊢;exact ht
  have c0:w.cell? ⟨g,0,none⟩=some (.slice none 0 0):=ht'.c0
  have HIN:Hid (Calls Tryz.prog 157 #[.pointer (some ⟨g,0,none⟩), .int .i64 1] w fun e w'=>e= .returned (.tuple #[])∧HTab w' g T true es 0∧Below g w w'):=by
   rw[hne] at ht'⊢
   exact Lib.hid (htInit_c g T w ht')
  clear hc hE hI hhh hb0 ht ht' hne hz hg
  go_enter Tryz.func131,Tryz.ntmps131
  go_wp2_with fail
  go_step3
  go_upto_if 38 with(first
   |(go_at_call 156;(with_reducible refine(HM.out _).mono ?_);rintro e w1 ⟨rfl,hw1⟩;have hw2:=hw1.symm;clear hw1;subst hw2)
   |(go_at_call 157;(with_reducible refine HIN.out.mono ?_);rintro e wi ⟨rfl,hti,hbi⟩;have HTI:=Lib.hid hti;have HBI:=Lib.hid hbi;have HBJ:=Lib.hid (HB0.out.trans (hbi.mono HG.out));clear hti hbi)
   |(go_at_fn K;(with_reducible refine(HC.out _ HBJ.out).mono ?_);rintro e w1 ⟨rfl,hb1⟩;have HT1:=Lib.hid (HTI.out.below hb1);have HB1:=Lib.hid (below_glue HBI.out hb1 (Nat.le_of_lt (lt_blk HTI.out)));have HBW:=Lib.hid (HBJ.out.trans (hb1.mono HBJ.out.size));clear hb1))
  go_cut [8] (fun a wx=>a= .int .u32 hh∧wx=w1)
  case first=>
   by_cases hz:h=0
   ·subst hz
    have e1:Hid (hh=1):=Lib.hid (by have:=HHH.out;simpa using this.symm)
    obtain rfl:=e1.out
    go_wp2
    go_meet
    exact⟨rfl,rfl⟩
   ·have e1:Hid (hh=h):=Lib.hid (by have:=HHH.out;rw[if_neg hz] at this;exact this.symm)
    obtain rfl:=e1.out
    have hzb:(hh==0)=false:=by simp[hz]
    go_wp2
    go_meet
    exact⟨rfl,rfl⟩
  case rest=>
   obtain⟨rfl,rfl⟩:=hcut
   clear c0 HC HM hm he HHH HB0
   have d0:wc.cell? ⟨g,0,none⟩=some (.slice (some ⟨g,1,none⟩) 1 1):=HT1.out.c0
   go_wp2_with fail
   go_step3
   go_wp2_with fail
   have hw0:IntKind.i64.wrap 0=0:=by decide
   have hw1:IntKind.u32.wrap 0=0:=by decide
   go_region_held3 (fun W=>W.cell? ⟨g,0,none⟩=some (.slice (some ⟨g,1,none⟩) 1 1)) (first|(with_reducible exact d0)|exact d0) (fail)
   go_wp2_with fail
   refine wp_loop_rounds 1 ?_
   rw[rounds_succ]
   go_wp2_with fail
   go_loopw [10,53] (fun a i wr=> ∃q:Nat,q≤8∧i= .int .i64 q∧a=insV g es.length q∧Hid (Below wc.heap.size wc wr)) (fun _ i _=>8-(intOf i).toNat)
   case atStart=>exact⟨0,by omega,rfl,rfl,Lib.hid (Below.refl _ _).drew⟩
   case round=>
    obtain⟨q,hq,rfl,rfl,HBR⟩:=hrel
    have HTR:Hid (HTab wr g T true es 0):=Lib.hid (HT1.out.below HBR.out)
    by_cases hlt:q<8
    ·have x0:=HTR.out.slot q 0 hlt (by decide)
     by_cases hf:q≤7-es.length
     ·rw[slot_empty g es (7-q) (by omega)] at x0
      simp only[Nat.add_zero] at x0
      have HI:=Lib.hid (insV_new g es.length q hf)
      obtain⟨iv,hiv⟩: ∃v,insV g es.length q=v:=⟨_,rfl⟩
      rw[hiv]
      clear hiv hf
      go_wp2
      go_roundw
      case rel=>exact⟨q+1,by omega,by go_num,HI.out.symm,HBR⟩
      case measure=>simp[intOf];omega
     ·have hj:7-q<es.length:=by omega
      have x1:=HTR.out.slot q 1 hlt (by decide)
      rw[(slot_full g es (7-q) hj).1] at x0
      rw[(slot_full g es (7-q) hj).2.1] at x1
      obtain⟨⟨Tj,xj,hxj⟩,hnz⟩:=HE.out.2 (7-q) hj
      have HI:=Lib.hid (insV_old g es.length q hf)
      obtain⟨iv,hiv⟩: ∃v,insV g es.length q=v:=⟨_,rfl⟩
      have HIV:=Lib.hid hiv
      rw[hiv]
      have HEj:=Lib.hid (fun hhe=>HE.out.1 (7-q) hj hhe wr (HBW.out.trans (HBR.out.mono HBW.out.size)))
      rw[hxj] at x1 HEj
      simp only[Nat.add_zero] at x0
      generalize es[7-q].h=eh at x0 hnz HEj
      clear hiv hf hxj
      by_cases hhe:eh=hh
      ·have HEq:=Lib.hid (HEj.out hhe)
       subst hhe
       clear HEj
       have hq1:(eh !=eh)=false:=by simp
       go_wp2_with (go_at_call 121;(with_reducible refine HEq.out.mono ?_);rintro e w2 ⟨rfl,hb2⟩;replace HBR:=Lib.hid (HBR.out.trans (hb2.mono HBR.out.size));clear hb2)
       go_roundw
       case rel=>exact⟨q+1,by omega,by go_num,HIV.out.symm.trans HI.out.symm,HBR⟩
       case measure=>simp[intOf];omega
      ·have hq1:(eh !=hh)=true:=by simp[hhe]
       have hq2:(eh==0)=false:=by simp[hnz]
       clear hhe HEj hnz
       go_wp2
       go_roundw
       case rel=>exact⟨q+1,by omega,by go_num,HIV.out.symm.trans HI.out.symm,HBR⟩
       case measure=>simp[intOf];omega
    ·obtain rfl:q=8:=by omega
     rw[insV_end]
     have d41:=HTR.out.c41
     have d42:=HTR.out.c42
     have d0':wr.cell? ⟨g,0,none⟩=some (.slice (some ⟨g,1,none⟩) 1 1):=HTR.out.c0
     have HO:Hid (∀w:World,Calls Tryz.prog 158 #[.int .i64 (es.length:Int), .int .i64 1] w fun e w'=>e= .returned (.bool false)∧w'=w):=Lib.hid fun w=>overloaded_c es.length 1 w hk
     have hwk:IntKind.i64.wrap (es.length:Int)=(es.length:Int):=IntWalk.i64_in _ (by omega)
     have hln:=hk
     go_upto_region 29 with fail
     go_region_held3 (fun W=>W.cell? ⟨g,0,none⟩=some (.slice (some ⟨g,1,none⟩) 1 1)∧W.cell? ⟨g,42,none⟩=some (.int .u32 es.length)) (first|(with_reducible exact⟨d0',d42⟩)|exact⟨d0',d42⟩) (first|(go_at_call 158;(with_reducible refine(HO.out _).mono ?_);rintro e w2 ⟨rfl,rfl⟩))
     go_upto_region 35 with fail
     obtain⟨W,hW⟩: ∃W,W=wr.drew:=⟨_,rfl⟩
     have HT2:Hid (HTab W g T true es 0):=by rw[hW];exact HTR
     have HB2:Hid (Below g w W):=by rw[hW];exact Lib.hid (below_glue HB1.out HBR.out (Nat.le_of_lt (lt_blk HT1.out))).drew
     rw[←hW]
     clear hW d0 d0' d41 d42 HTR HBR HB1 HBW HT1 HO hwk hln
     have hlk:es.length=0:=HZ.out
     skip
     ·have HLK:=Lib.hid hlk
      have z42:W.cell? ⟨g,42,none⟩=some (.int .u32 0):=by have:=HT2.out.c42;rw[hlk] at this;exact this
      have z45:W.cell? ⟨g,45,none⟩=some (.pointer (some ⟨g,44,none⟩)):=by have:=HT2.out.c45;rw[hlk] at this;exact this
      have ztl: ∃v,W.cell? ⟨g,44,none⟩=some v:=⟨_,HT2.out.cell 44 (by decide)⟩
      obtain⟨vtl,ztl⟩:=ztl
      have zz: ∀o,o<47→ ∃v,W.cell? ⟨g,o,none⟩=some v:=fun o ho=>⟨_,HT2.out.cell o ho⟩
      obtain⟨v0,y0⟩:=zz 36 (by decide)
      obtain⟨v1,y1⟩:=zz 37 (by decide)
      obtain⟨v2,y2⟩:=zz 38 (by decide)
      obtain⟨v4,y4⟩:=zz 40 (by decide)
      have hfz:=fun o=>HT2.out.free o
      have HEND:Hid (HTab (((((((W.setCell ⟨g,36,none⟩ (.int .u32 hh)).setCell ⟨g,37,none⟩ (.iface TK kx)).setCell ⟨g,38,none⟩ (.iface TV vx)).setCell ⟨g,40,none⟩ (.pointer (some ⟨g,44,none⟩))).setCell ⟨g,44,none⟩ (.pointer (some ⟨g,36,none⟩))).setCell ⟨g,45,none⟩ (.pointer (some ⟨g,39,none⟩))).setCell ⟨g,42,none⟩ (.int .u32 1)) g T true (es++[⟨hh, .iface TK kx, .iface TV vx⟩]) 0):=by
       have:=HT2.out.push (by omega) ⟨hh, .iface TK kx, .iface TV vx⟩
       rw[hlk] at this
       exact Lib.hid this
      have HLOW:Hid (Below g w (((((((W.setCell ⟨g,36,none⟩ (.int .u32 hh)).setCell ⟨g,37,none⟩ (.iface TK kx)).setCell ⟨g,38,none⟩ (.iface TV vx)).setCell ⟨g,40,none⟩ (.pointer (some ⟨g,44,none⟩))).setCell ⟨g,44,none⟩ (.pointer (some ⟨g,36,none⟩))).setCell ⟨g,45,none⟩ (.pointer (some ⟨g,39,none⟩))).setCell ⟨g,42,none⟩ (.int .u32 1))):=Lib.hid (((((((HB2.out.setCell (p:=⟨g,36,none⟩) (Nat.le_refl _) _).setCell (p:=⟨g,37,none⟩) (Nat.le_refl _) _).setCell (p:=⟨g,38,none⟩) (Nat.le_refl _) _).setCell (p:=⟨g,40,none⟩) (Nat.le_refl _) _).setCell (p:=⟨g,44,none⟩) (Nat.le_refl _) _).setCell (p:=⟨g,45,none⟩) (Nat.le_refl _) _).setCell (p:=⟨g,42,none⟩) (Nat.le_refl _) _)
      rw[hlk]
      clear zz HT2 HB2 hlk
      go_wp2
      (try rw[Exit.noGoto_ret])
      go_ret
      exact⟨rfl,HEND.out,HLOW.out⟩
 ·have hb:(!es.isEmpty)=true:=by cases es;exact absurd rfl hne;rfl
  have hz: ¬es.length=0:=fun e=>hne (List.length_eq_zero_iff.1 e)
  have HZ:=Lib.hid hz
  rw[hb] at ht
  have c0:w.cell? ⟨g,0,none⟩=some (.slice (some ⟨g,1,none⟩) 1 1):=ht.c0
  have HT:=Lib.hid ht
  clear hc hE hI hhh hb0 ht hne hz hb hg
  go_enter Tryz.func131,Tryz.ntmps131
  go_wp2_with fail
  go_step3
  go_upto_if 38 with(first
   |(go_at_call 156;(with_reducible refine(HM.out _).mono ?_);rintro e w1 ⟨rfl,hw1⟩;have hw2:=hw1.symm;clear hw1;subst hw2)
   |(go_at_fn K;(with_reducible refine(HC.out _ HB0.out).mono ?_);rintro e w1 ⟨rfl,hb1⟩;have HT1:=Lib.hid (HT.out.below hb1);have HB1:=Lib.hid (below_glue (Below.refl g w) hb1 (Nat.le_of_lt (lt_blk HT.out)));have HBW:=Lib.hid (HB0.out.trans (hb1.mono HB0.out.size));clear hb1))
  go_cut [8] (fun a wx=>a= .int .u32 hh∧wx=w1)
  case first=>
   by_cases hz:h=0
   ·subst hz
    have e1:Hid (hh=1):=Lib.hid (by have:=HHH.out;simpa using this.symm)
    obtain rfl:=e1.out
    go_wp2
    go_meet
    exact⟨rfl,rfl⟩
   ·have e1:Hid (hh=h):=Lib.hid (by have:=HHH.out;rw[if_neg hz] at this;exact this.symm)
    obtain rfl:=e1.out
    have hzb:(hh==0)=false:=by simp[hz]
    go_wp2
    go_meet
    exact⟨rfl,rfl⟩
  case rest=>
   obtain⟨rfl,rfl⟩:=hcut
   clear c0 HC HM hm he HHH HB0
   have d0:wc.cell? ⟨g,0,none⟩=some (.slice (some ⟨g,1,none⟩) 1 1):=HT1.out.c0
   go_wp2_with fail
   go_step3
   go_wp2_with fail
   have hw0:IntKind.i64.wrap 0=0:=by decide
   have hw1:IntKind.u32.wrap 0=0:=by decide
   go_region_held3 (fun W=>W.cell? ⟨g,0,none⟩=some (.slice (some ⟨g,1,none⟩) 1 1)) (first|(with_reducible exact d0)|exact d0) (fail)
   go_wp2_with fail
   refine wp_loop_rounds 1 ?_
   rw[rounds_succ]
   go_wp2_with fail
   go_loopw [10,53] (fun a i wr=> ∃q:Nat,q≤8∧i= .int .i64 q∧a=insV g es.length q∧Hid (Below wc.heap.size wc wr)) (fun _ i _=>8-(intOf i).toNat)
   case atStart=>exact⟨0,by omega,rfl,rfl,Lib.hid (Below.refl _ _).drew⟩
   case round=>
    obtain⟨q,hq,rfl,rfl,HBR⟩:=hrel
    have HTR:Hid (HTab wr g T true es 0):=Lib.hid (HT1.out.below HBR.out)
    by_cases hlt:q<8
    ·have x0:=HTR.out.slot q 0 hlt (by decide)
     by_cases hf:q≤7-es.length
     ·rw[slot_empty g es (7-q) (by omega)] at x0
      simp only[Nat.add_zero] at x0
      have HI:=Lib.hid (insV_new g es.length q hf)
      obtain⟨iv,hiv⟩: ∃v,insV g es.length q=v:=⟨_,rfl⟩
      rw[hiv]
      clear hiv hf
      go_wp2
      go_roundw
      case rel=>exact⟨q+1,by omega,by go_num,HI.out.symm,HBR⟩
      case measure=>simp[intOf];omega
     ·have hj:7-q<es.length:=by omega
      have x1:=HTR.out.slot q 1 hlt (by decide)
      rw[(slot_full g es (7-q) hj).1] at x0
      rw[(slot_full g es (7-q) hj).2.1] at x1
      obtain⟨⟨Tj,xj,hxj⟩,hnz⟩:=HE.out.2 (7-q) hj
      have HI:=Lib.hid (insV_old g es.length q hf)
      obtain⟨iv,hiv⟩: ∃v,insV g es.length q=v:=⟨_,rfl⟩
      have HIV:=Lib.hid hiv
      rw[hiv]
      have HEj:=Lib.hid (fun hhe=>HE.out.1 (7-q) hj hhe wr (HBW.out.trans (HBR.out.mono HBW.out.size)))
      rw[hxj] at x1 HEj
      simp only[Nat.add_zero] at x0
      generalize es[7-q].h=eh at x0 hnz HEj
      clear hiv hf hxj
      by_cases hhe:eh=hh
      ·have HEq:=Lib.hid (HEj.out hhe)
       subst hhe
       clear HEj
       have hq1:(eh !=eh)=false:=by simp
       go_wp2_with (go_at_call 121;(with_reducible refine HEq.out.mono ?_);rintro e w2 ⟨rfl,hb2⟩;replace HBR:=Lib.hid (HBR.out.trans (hb2.mono HBR.out.size));clear hb2)
       go_roundw
       case rel=>exact⟨q+1,by omega,by go_num,HIV.out.symm.trans HI.out.symm,HBR⟩
       case measure=>simp[intOf];omega
      ·have hq1:(eh !=hh)=true:=by simp[hhe]
       have hq2:(eh==0)=false:=by simp[hnz]
       clear hhe HEj hnz
       go_wp2
       go_roundw
       case rel=>exact⟨q+1,by omega,by go_num,HIV.out.symm.trans HI.out.symm,HBR⟩
       case measure=>simp[intOf];omega
    ·obtain rfl:q=8:=by omega
     rw[insV_end]
     have d41:=HTR.out.c41
     have d42:=HTR.out.c42
     have d0':wr.cell? ⟨g,0,none⟩=some (.slice (some ⟨g,1,none⟩) 1 1):=HTR.out.c0
     have HO:Hid (∀w:World,Calls Tryz.prog 158 #[.int .i64 (es.length:Int), .int .i64 1] w fun e w'=>e= .returned (.bool false)∧w'=w):=Lib.hid fun w=>overloaded_c es.length 1 w hk
     have hwk:IntKind.i64.wrap (es.length:Int)=(es.length:Int):=IntWalk.i64_in _ (by omega)
     have hln:=hk
     go_upto_region 29 with fail
     go_region_held3 (fun W=>W.cell? ⟨g,0,none⟩=some (.slice (some ⟨g,1,none⟩) 1 1)∧W.cell? ⟨g,42,none⟩=some (.int .u32 es.length)) (first|(with_reducible exact⟨d0',d42⟩)|exact⟨d0',d42⟩) (first|(go_at_call 158;(with_reducible refine(HO.out _).mono ?_);rintro e w2 ⟨rfl,rfl⟩))
     go_upto_region 35 with fail
     obtain⟨W,hW⟩: ∃W,W=wr.drew:=⟨_,rfl⟩
     have HT2:Hid (HTab W g T true es 0):=by rw[hW];exact HTR
     have HB2:Hid (Below g w W):=by rw[hW];exact Lib.hid (below_glue HB1.out HBR.out (Nat.le_of_lt (lt_blk HT1.out))).drew
     rw[←hW]
     clear hW d0 d0' d41 d42 HTR HBR HB1 HBW HT1 HO hwk hln
     have hcase:es.length=1∨es.length=2∨es.length=3∨es.length=4∨es.length=5∨es.length=6∨es.length=7:=by have:=HZ.out;omega
     rcases hcase with hlk|hlk|hlk|hlk|hlk|hlk|hlk
     ·have HLK:=Lib.hid hlk
      have z42:W.cell? ⟨g,42,none⟩=some (.int .u32 1):=by have:=HT2.out.c42;rw[hlk] at this;exact this
      have z45:W.cell? ⟨g,45,none⟩=some (.pointer (some ⟨g,39,none⟩)):=by have:=HT2.out.c45;rw[hlk] at this;exact this
      have ztl: ∃v,W.cell? ⟨g,39,none⟩=some v:=⟨_,HT2.out.cell 39 (by decide)⟩
      obtain⟨vtl,ztl⟩:=ztl
      have zz: ∀o,o<47→ ∃v,W.cell? ⟨g,o,none⟩=some v:=fun o ho=>⟨_,HT2.out.cell o ho⟩
      obtain⟨v0,y0⟩:=zz 31 (by decide)
      obtain⟨v1,y1⟩:=zz 32 (by decide)
      obtain⟨v2,y2⟩:=zz 33 (by decide)
      obtain⟨v4,y4⟩:=zz 35 (by decide)
      have hfz:=fun o=>HT2.out.free o
      have HEND:Hid (HTab (((((((W.setCell ⟨g,31,none⟩ (.int .u32 hh)).setCell ⟨g,32,none⟩ (.iface TK kx)).setCell ⟨g,33,none⟩ (.iface TV vx)).setCell ⟨g,35,none⟩ (.pointer (some ⟨g,39,none⟩))).setCell ⟨g,39,none⟩ (.pointer (some ⟨g,31,none⟩))).setCell ⟨g,45,none⟩ (.pointer (some ⟨g,34,none⟩))).setCell ⟨g,42,none⟩ (.int .u32 2)) g T true (es++[⟨hh, .iface TK kx, .iface TV vx⟩]) 0):=by
       have:=HT2.out.push (by omega) ⟨hh, .iface TK kx, .iface TV vx⟩
       rw[hlk] at this
       exact Lib.hid this
      have HLOW:Hid (Below g w (((((((W.setCell ⟨g,31,none⟩ (.int .u32 hh)).setCell ⟨g,32,none⟩ (.iface TK kx)).setCell ⟨g,33,none⟩ (.iface TV vx)).setCell ⟨g,35,none⟩ (.pointer (some ⟨g,39,none⟩))).setCell ⟨g,39,none⟩ (.pointer (some ⟨g,31,none⟩))).setCell ⟨g,45,none⟩ (.pointer (some ⟨g,34,none⟩))).setCell ⟨g,42,none⟩ (.int .u32 2))):=Lib.hid (((((((HB2.out.setCell (p:=⟨g,31,none⟩) (Nat.le_refl _) _).setCell (p:=⟨g,32,none⟩) (Nat.le_refl _) _).setCell (p:=⟨g,33,none⟩) (Nat.le_refl _) _).setCell (p:=⟨g,35,none⟩) (Nat.le_refl _) _).setCell (p:=⟨g,39,none⟩) (Nat.le_refl _) _).setCell (p:=⟨g,45,none⟩) (Nat.le_refl _) _).setCell (p:=⟨g,42,none⟩) (Nat.le_refl _) _)
      rw[hlk]
      clear zz HT2 HB2 hlk
      go_wp2
      (try rw[Exit.noGoto_ret])
      go_ret
      exact⟨rfl,HEND.out,HLOW.out⟩
     ·have HLK:=Lib.hid hlk
      have z42:W.cell? ⟨g,42,none⟩=some (.int .u32 2):=by have:=HT2.out.c42;rw[hlk] at this;exact this
      have z45:W.cell? ⟨g,45,none⟩=some (.pointer (some ⟨g,34,none⟩)):=by have:=HT2.out.c45;rw[hlk] at this;exact this
      have ztl: ∃v,W.cell? ⟨g,34,none⟩=some v:=⟨_,HT2.out.cell 34 (by decide)⟩
      obtain⟨vtl,ztl⟩:=ztl
      have zz: ∀o,o<47→ ∃v,W.cell? ⟨g,o,none⟩=some v:=fun o ho=>⟨_,HT2.out.cell o ho⟩
      obtain⟨v0,y0⟩:=zz 26 (by decide)
      obtain⟨v1,y1⟩:=zz 27 (by decide)
      obtain⟨v2,y2⟩:=zz 28 (by decide)
      obtain⟨v4,y4⟩:=zz 30 (by decide)
      have hfz:=fun o=>HT2.out.free o
      have HEND:Hid (HTab (((((((W.setCell ⟨g,26,none⟩ (.int .u32 hh)).setCell ⟨g,27,none⟩ (.iface TK kx)).setCell ⟨g,28,none⟩ (.iface TV vx)).setCell ⟨g,30,none⟩ (.pointer (some ⟨g,34,none⟩))).setCell ⟨g,34,none⟩ (.pointer (some ⟨g,26,none⟩))).setCell ⟨g,45,none⟩ (.pointer (some ⟨g,29,none⟩))).setCell ⟨g,42,none⟩ (.int .u32 3)) g T true (es++[⟨hh, .iface TK kx, .iface TV vx⟩]) 0):=by
       have:=HT2.out.push (by omega) ⟨hh, .iface TK kx, .iface TV vx⟩
       rw[hlk] at this
       exact Lib.hid this
      have HLOW:Hid (Below g w (((((((W.setCell ⟨g,26,none⟩ (.int .u32 hh)).setCell ⟨g,27,none⟩ (.iface TK kx)).setCell ⟨g,28,none⟩ (.iface TV vx)).setCell ⟨g,30,none⟩ (.pointer (some ⟨g,34,none⟩))).setCell ⟨g,34,none⟩ (.pointer (some ⟨g,26,none⟩))).setCell ⟨g,45,none⟩ (.pointer (some ⟨g,29,none⟩))).setCell ⟨g,42,none⟩ (.int .u32 3))):=Lib.hid (((((((HB2.out.setCell (p:=⟨g,26,none⟩) (Nat.le_refl _) _).setCell (p:=⟨g,27,none⟩) (Nat.le_refl _) _).setCell (p:=⟨g,28,none⟩) (Nat.le_refl _) _).setCell (p:=⟨g,30,none⟩) (Nat.le_refl _) _).setCell (p:=⟨g,34,none⟩) (Nat.le_refl _) _).setCell (p:=⟨g,45,none⟩) (Nat.le_refl _) _).setCell (p:=⟨g,42,none⟩) (Nat.le_refl _) _)
      rw[hlk]
      clear zz HT2 HB2 hlk
      go_wp2
      (try rw[Exit.noGoto_ret])
      go_ret
      exact⟨rfl,HEND.out,HLOW.out⟩
     ·have HLK:=Lib.hid hlk
      have z42:W.cell? ⟨g,42,none⟩=some (.int .u32 3):=by have:=HT2.out.c42;rw[hlk] at this;exact this
      have z45:W.cell? ⟨g,45,none⟩=some (.pointer (some ⟨g,29,none⟩)):=by have:=HT2.out.c45;rw[hlk] at this;exact this
      have ztl: ∃v,W.cell? ⟨g,29,none⟩=some v:=⟨_,HT2.out.cell 29 (by decide)⟩
      obtain⟨vtl,ztl⟩:=ztl
      have zz: ∀o,o<47→ ∃v,W.cell? ⟨g,o,none⟩=some v:=fun o ho=>⟨_,HT2.out.cell o ho⟩
      obtain⟨v0,y0⟩:=zz 21 (by decide)
      obtain⟨v1,y1⟩:=zz 22 (by decide)
      obtain⟨v2,y2⟩:=zz 23 (by decide)
      obtain⟨v4,y4⟩:=zz 25 (by decide)
      have hfz:=fun o=>HT2.out.free o
      have HEND:Hid (HTab (((((((W.setCell ⟨g,21,none⟩ (.int .u32 hh)).setCell ⟨g,22,none⟩ (.iface TK kx)).setCell ⟨g,23,none⟩ (.iface TV vx)).setCell ⟨g,25,none⟩ (.pointer (some ⟨g,29,none⟩))).setCell ⟨g,29,none⟩ (.pointer (some ⟨g,21,none⟩))).setCell ⟨g,45,none⟩ (.pointer (some ⟨g,24,none⟩))).setCell ⟨g,42,none⟩ (.int .u32 4)) g T true (es++[⟨hh, .iface TK kx, .iface TV vx⟩]) 0):=by
       have:=HT2.out.push (by omega) ⟨hh, .iface TK kx, .iface TV vx⟩
       rw[hlk] at this
       exact Lib.hid this
      have HLOW:Hid (Below g w (((((((W.setCell ⟨g,21,none⟩ (.int .u32 hh)).setCell ⟨g,22,none⟩ (.iface TK kx)).setCell ⟨g,23,none⟩ (.iface TV vx)).setCell ⟨g,25,none⟩ (.pointer (some ⟨g,29,none⟩))).setCell ⟨g,29,none⟩ (.pointer (some ⟨g,21,none⟩))).setCell ⟨g,45,none⟩ (.pointer (some ⟨g,24,none⟩))).setCell ⟨g,42,none⟩ (.int .u32 4))):=Lib.hid (((((((HB2.out.setCell (p:=⟨g,21,none⟩) (Nat.le_refl _) _).setCell (p:=⟨g,22,none⟩) (Nat.le_refl _) _).setCell (p:=⟨g,23,none⟩) (Nat.le_refl _) _).setCell (p:=⟨g,25,none⟩) (Nat.le_refl _) _).setCell (p:=⟨g,29,none⟩) (Nat.le_refl _) _).setCell (p:=⟨g,45,none⟩) (Nat.le_refl _) _).setCell (p:=⟨g,42,none⟩) (Nat.le_refl _) _)
      rw[hlk]
      clear zz HT2 HB2 hlk
      go_wp2
      (try rw[Exit.noGoto_ret])
      go_ret
      exact⟨rfl,HEND.out,HLOW.out⟩
     ·have HLK:=Lib.hid hlk
      have z42:W.cell? ⟨g,42,none⟩=some (.int .u32 4):=by have:=HT2.out.c42;rw[hlk] at this;exact this
      have z45:W.cell? ⟨g,45,none⟩=some (.pointer (some ⟨g,24,none⟩)):=by have:=HT2.out.c45;rw[hlk] at this;exact this
      have ztl: ∃v,W.cell? ⟨g,24,none⟩=some v:=⟨_,HT2.out.cell 24 (by decide)⟩
      obtain⟨vtl,ztl⟩:=ztl
      have zz: ∀o,o<47→ ∃v,W.cell? ⟨g,o,none⟩=some v:=fun o ho=>⟨_,HT2.out.cell o ho⟩
      obtain⟨v0,y0⟩:=zz 16 (by decide)
      obtain⟨v1,y1⟩:=zz 17 (by decide)
      obtain⟨v2,y2⟩:=zz 18 (by decide)
      obtain⟨v4,y4⟩:=zz 20 (by decide)
      have hfz:=fun o=>HT2.out.free o
      have HEND:Hid (HTab (((((((W.setCell ⟨g,16,none⟩ (.int .u32 hh)).setCell ⟨g,17,none⟩ (.iface TK kx)).setCell ⟨g,18,none⟩ (.iface TV vx)).setCell ⟨g,20,none⟩ (.pointer (some ⟨g,24,none⟩))).setCell ⟨g,24,none⟩ (.pointer (some ⟨g,16,none⟩))).setCell ⟨g,45,none⟩ (.pointer (some ⟨g,19,none⟩))).setCell ⟨g,42,none⟩ (.int .u32 5)) g T true (es++[⟨hh, .iface TK kx, .iface TV vx⟩]) 0):=by
       have:=HT2.out.push (by omega) ⟨hh, .iface TK kx, .iface TV vx⟩
       rw[hlk] at this
       exact Lib.hid this
      have HLOW:Hid (Below g w (((((((W.setCell ⟨g,16,none⟩ (.int .u32 hh)).setCell ⟨g,17,none⟩ (.iface TK kx)).setCell ⟨g,18,none⟩ (.iface TV vx)).setCell ⟨g,20,none⟩ (.pointer (some ⟨g,24,none⟩))).setCell ⟨g,24,none⟩ (.pointer (some ⟨g,16,none⟩))).setCell ⟨g,45,none⟩ (.pointer (some ⟨g,19,none⟩))).setCell ⟨g,42,none⟩ (.int .u32 5))):=Lib.hid (((((((HB2.out.setCell (p:=⟨g,16,none⟩) (Nat.le_refl _) _).setCell (p:=⟨g,17,none⟩) (Nat.le_refl _) _).setCell (p:=⟨g,18,none⟩) (Nat.le_refl _) _).setCell (p:=⟨g,20,none⟩) (Nat.le_refl _) _).setCell (p:=⟨g,24,none⟩) (Nat.le_refl _) _).setCell (p:=⟨g,45,none⟩) (Nat.le_refl _) _).setCell (p:=⟨g,42,none⟩) (Nat.le_refl _) _)
      rw[hlk]
      clear zz HT2 HB2 hlk
      go_wp2
      (try rw[Exit.noGoto_ret])
      go_ret
      exact⟨rfl,HEND.out,HLOW.out⟩
     ·have HLK:=Lib.hid hlk
      have z42:W.cell? ⟨g,42,none⟩=some (.int .u32 5):=by have:=HT2.out.c42;rw[hlk] at this;exact this
      have z45:W.cell? ⟨g,45,none⟩=some (.pointer (some ⟨g,19,none⟩)):=by have:=HT2.out.c45;rw[hlk] at this;exact this
      have ztl: ∃v,W.cell? ⟨g,19,none⟩=some v:=⟨_,HT2.out.cell 19 (by decide)⟩
      obtain⟨vtl,ztl⟩:=ztl
      have zz: ∀o,o<47→ ∃v,W.cell? ⟨g,o,none⟩=some v:=fun o ho=>⟨_,HT2.out.cell o ho⟩
      obtain⟨v0,y0⟩:=zz 11 (by decide)
      obtain⟨v1,y1⟩:=zz 12 (by decide)
      obtain⟨v2,y2⟩:=zz 13 (by decide)
      obtain⟨v4,y4⟩:=zz 15 (by decide)
      have hfz:=fun o=>HT2.out.free o
      have HEND:Hid (HTab (((((((W.setCell ⟨g,11,none⟩ (.int .u32 hh)).setCell ⟨g,12,none⟩ (.iface TK kx)).setCell ⟨g,13,none⟩ (.iface TV vx)).setCell ⟨g,15,none⟩ (.pointer (some ⟨g,19,none⟩))).setCell ⟨g,19,none⟩ (.pointer (some ⟨g,11,none⟩))).setCell ⟨g,45,none⟩ (.pointer (some ⟨g,14,none⟩))).setCell ⟨g,42,none⟩ (.int .u32 6)) g T true (es++[⟨hh, .iface TK kx, .iface TV vx⟩]) 0):=by
       have:=HT2.out.push (by omega) ⟨hh, .iface TK kx, .iface TV vx⟩
       rw[hlk] at this
       exact Lib.hid this
      have HLOW:Hid (Below g w (((((((W.setCell ⟨g,11,none⟩ (.int .u32 hh)).setCell ⟨g,12,none⟩ (.iface TK kx)).setCell ⟨g,13,none⟩ (.iface TV vx)).setCell ⟨g,15,none⟩ (.pointer (some ⟨g,19,none⟩))).setCell ⟨g,19,none⟩ (.pointer (some ⟨g,11,none⟩))).setCell ⟨g,45,none⟩ (.pointer (some ⟨g,14,none⟩))).setCell ⟨g,42,none⟩ (.int .u32 6))):=Lib.hid (((((((HB2.out.setCell (p:=⟨g,11,none⟩) (Nat.le_refl _) _).setCell (p:=⟨g,12,none⟩) (Nat.le_refl _) _).setCell (p:=⟨g,13,none⟩) (Nat.le_refl _) _).setCell (p:=⟨g,15,none⟩) (Nat.le_refl _) _).setCell (p:=⟨g,19,none⟩) (Nat.le_refl _) _).setCell (p:=⟨g,45,none⟩) (Nat.le_refl _) _).setCell (p:=⟨g,42,none⟩) (Nat.le_refl _) _)
      rw[hlk]
      clear zz HT2 HB2 hlk
      go_wp2
      (try rw[Exit.noGoto_ret])
      go_ret
      exact⟨rfl,HEND.out,HLOW.out⟩
     ·have HLK:=Lib.hid hlk
      have z42:W.cell? ⟨g,42,none⟩=some (.int .u32 6):=by have:=HT2.out.c42;rw[hlk] at this;exact this
      have z45:W.cell? ⟨g,45,none⟩=some (.pointer (some ⟨g,14,none⟩)):=by have:=HT2.out.c45;rw[hlk] at this;exact this
      have ztl: ∃v,W.cell? ⟨g,14,none⟩=some v:=⟨_,HT2.out.cell 14 (by decide)⟩
      obtain⟨vtl,ztl⟩:=ztl
      have zz: ∀o,o<47→ ∃v,W.cell? ⟨g,o,none⟩=some v:=fun o ho=>⟨_,HT2.out.cell o ho⟩
      obtain⟨v0,y0⟩:=zz 6 (by decide)
      obtain⟨v1,y1⟩:=zz 7 (by decide)
      obtain⟨v2,y2⟩:=zz 8 (by decide)
      obtain⟨v4,y4⟩:=zz 10 (by decide)
      have hfz:=fun o=>HT2.out.free o
      have HEND:Hid (HTab (((((((W.setCell ⟨g,6,none⟩ (.int .u32 hh)).setCell ⟨g,7,none⟩ (.iface TK kx)).setCell ⟨g,8,none⟩ (.iface TV vx)).setCell ⟨g,10,none⟩ (.pointer (some ⟨g,14,none⟩))).setCell ⟨g,14,none⟩ (.pointer (some ⟨g,6,none⟩))).setCell ⟨g,45,none⟩ (.pointer (some ⟨g,9,none⟩))).setCell ⟨g,42,none⟩ (.int .u32 7)) g T true (es++[⟨hh, .iface TK kx, .iface TV vx⟩]) 0):=by
       have:=HT2.out.push (by omega) ⟨hh, .iface TK kx, .iface TV vx⟩
       rw[hlk] at this
       exact Lib.hid this
      have HLOW:Hid (Below g w (((((((W.setCell ⟨g,6,none⟩ (.int .u32 hh)).setCell ⟨g,7,none⟩ (.iface TK kx)).setCell ⟨g,8,none⟩ (.iface TV vx)).setCell ⟨g,10,none⟩ (.pointer (some ⟨g,14,none⟩))).setCell ⟨g,14,none⟩ (.pointer (some ⟨g,6,none⟩))).setCell ⟨g,45,none⟩ (.pointer (some ⟨g,9,none⟩))).setCell ⟨g,42,none⟩ (.int .u32 7))):=Lib.hid (((((((HB2.out.setCell (p:=⟨g,6,none⟩) (Nat.le_refl _) _).setCell (p:=⟨g,7,none⟩) (Nat.le_refl _) _).setCell (p:=⟨g,8,none⟩) (Nat.le_refl _) _).setCell (p:=⟨g,10,none⟩) (Nat.le_refl _) _).setCell (p:=⟨g,14,none⟩) (Nat.le_refl _) _).setCell (p:=⟨g,45,none⟩) (Nat.le_refl _) _).setCell (p:=⟨g,42,none⟩) (Nat.le_refl _) _)
      rw[hlk]
      clear zz HT2 HB2 hlk
      go_wp2
      (try rw[Exit.noGoto_ret])
      go_ret
      exact⟨rfl,HEND.out,HLOW.out⟩
     ·have HLK:=Lib.hid hlk
      have z42:W.cell? ⟨g,42,none⟩=some (.int .u32 7):=by have:=HT2.out.c42;rw[hlk] at this;exact this
      have z45:W.cell? ⟨g,45,none⟩=some (.pointer (some ⟨g,9,none⟩)):=by have:=HT2.out.c45;rw[hlk] at this;exact this
      have ztl: ∃v,W.cell? ⟨g,9,none⟩=some v:=⟨_,HT2.out.cell 9 (by decide)⟩
      obtain⟨vtl,ztl⟩:=ztl
      have zz: ∀o,o<47→ ∃v,W.cell? ⟨g,o,none⟩=some v:=fun o ho=>⟨_,HT2.out.cell o ho⟩
      obtain⟨v0,y0⟩:=zz 1 (by decide)
      obtain⟨v1,y1⟩:=zz 2 (by decide)
      obtain⟨v2,y2⟩:=zz 3 (by decide)
      obtain⟨v4,y4⟩:=zz 5 (by decide)
      have hfz:=fun o=>HT2.out.free o
      have HEND:Hid (HTab (((((((W.setCell ⟨g,1,none⟩ (.int .u32 hh)).setCell ⟨g,2,none⟩ (.iface TK kx)).setCell ⟨g,3,none⟩ (.iface TV vx)).setCell ⟨g,5,none⟩ (.pointer (some ⟨g,9,none⟩))).setCell ⟨g,9,none⟩ (.pointer (some ⟨g,1,none⟩))).setCell ⟨g,45,none⟩ (.pointer (some ⟨g,4,none⟩))).setCell ⟨g,42,none⟩ (.int .u32 8)) g T true (es++[⟨hh, .iface TK kx, .iface TV vx⟩]) 0):=by
       have:=HT2.out.push (by omega) ⟨hh, .iface TK kx, .iface TV vx⟩
       rw[hlk] at this
       exact Lib.hid this
      have HLOW:Hid (Below g w (((((((W.setCell ⟨g,1,none⟩ (.int .u32 hh)).setCell ⟨g,2,none⟩ (.iface TK kx)).setCell ⟨g,3,none⟩ (.iface TV vx)).setCell ⟨g,5,none⟩ (.pointer (some ⟨g,9,none⟩))).setCell ⟨g,9,none⟩ (.pointer (some ⟨g,1,none⟩))).setCell ⟨g,45,none⟩ (.pointer (some ⟨g,4,none⟩))).setCell ⟨g,42,none⟩ (.int .u32 8))):=Lib.hid (((((((HB2.out.setCell (p:=⟨g,1,none⟩) (Nat.le_refl _) _).setCell (p:=⟨g,2,none⟩) (Nat.le_refl _) _).setCell (p:=⟨g,3,none⟩) (Nat.le_refl _) _).setCell (p:=⟨g,5,none⟩) (Nat.le_refl _) _).setCell (p:=⟨g,9,none⟩) (Nat.le_refl _) _).setCell (p:=⟨g,45,none⟩) (Nat.le_refl _) _).setCell (p:=⟨g,42,none⟩) (Nat.le_refl _) _)
      rw[hlk]
      clear zz HT2 HB2 hlk
      go_wp2
      (try rw[Exit.noGoto_ret])
      go_ret
      exact⟨rfl,HEND.out,HLOW.out⟩
end Go.Proofs.YtkplnbjgkhmbcaaGreatDoor
