/- CdS CdR CdP LawReg LawCmp -/
import Derived.Test.YtkplnbjgkhmbcaaGreatDoorU22
import Derived.Test.YtkplnbjgkhmbcaaGreatDoorU21
import Derived.Test.YtkplnbjgkhmbcaaGreatDoorU20
import Derived.Test.YtkplnbjgkhmbcaaGreatDoorU14
import Derived.OrdersHeld
import Derived.Deep.RegionHeld3
namespace Go.Proofs.YtkplnbjgkhmbcaaGreatDoor
open Go.RowKit Go.Shelf Go.Proofs.YtkplnbjgkhmbcaaGreatDoorW.PrintWords Go.Proofs.YtkplnbjgkhmbcaaGreatDoorW.PrintLast Go.Proofs.YtkplnbjgkhmbcaaGreatDoorW.PrintMore Go.Proofs.YtkplnbjgkhmbcaaGreatDoor.PFnCompare Go.Proofs.YtkplnbjgkhmbcaaGreatDoor.PCmp Go.Proofs.YtkplnbjgkhmbcaaGreatDoor.PbytesOf
set_option linter.unusedVariables false
set_option linter.unusedSimpArgs false
theorem mkWord (W:World):(Instr.makeSlice 193 (.int .i64 1) (.int .i64 1)).run Tryz.prog W= .ok (.slice (some ⟨W.heap.size,0,none⟩) 1 1) (W.alloc (.cells #[.int .u64 0] 265)):=by kernel_rfl
theorem mkInt (W:World):(Instr.makeSlice 418 (.int .i64 1) (.int .i64 1)).run Tryz.prog W= .ok (.slice (some ⟨W.heap.size,0,none⟩) 1 1) (W.alloc (.cells #[.bool false, .slice none 0 0] 196)):=by kernel_rfl
structure CntW (w0:World) (K X g n Bt S j M:Nat) (key:Value) (wr:World):Prop where
 low:Below w0.heap.size w0 wr
 it:ItB wr K g n j
 xb:wr.heap[X]?=some (.cells #[key] 57 (0,0))
 bs:BitS wr Bt S M
theorem CntW.below {w0 w w':World} {K X g n Bt S j M:Nat} {key:Value} (h:CntW w0 K X g n Bt S j M key w) (hb:Below w.heap.size w w'):CntW w0 K X g n Bt S j M key w':=
 ⟨h.low.trans (hb.mono h.low.size),blk_below h.it hb,blk_below h.xb hb,blk_below h.bs.blk hb,blk_below h.bs.row hb,h.bs.ne,h.bs.lt⟩
structure CntP (w0:World) (K X Bt S:Nat):Prop where
 k0:w0.heap.size≤K
 kx:K<X
 xs:X<S
 sb:S<Bt
theorem cntNext_c {w0:World} {K X Bt S:Nat} (hp:CntP w0 K X Bt S) (g:Nat) (T:TypeId) (tab:Bool) (es:List HEnt) (it:Int) (j M:Nat) (key:Value) (wr:World) (ht:HTab w0 g T tab es it) (hn:es.length≤8) (hj:j<es.length) (hk: ∃T x,es[j].k= .iface T x) (h:CntW w0 K X g es.length Bt S j M key wr):
 Calls Tryz.prog 388 #[.pointer (some ⟨K,0,none⟩), .pointer (some ⟨X,0,none⟩)] wr fun e w'=>e= .returned (.bool true)∧CntW w0 K X g es.length Bt S (j+1) M es[j].k w':=by
 have h0:=hp.k0
 have h1:=hp.kx
 have h2:=hp.xs
 have h3:=hp.sb
 have hg:=lt_blk ht
 refine(next_c K X g T tab es it j key wr h.it (ht.below h.low) hn hj h.xb (by omega) (by omega) hk).mono ?_
 rintro e w' ⟨rfl,hr⟩
 exact⟨rfl,hr.low w0 h0 (by omega) h.low,hr.it,hr.xb,(hr.far Bt (by omega) (by omega)).trans h.bs.blk,(hr.far S (by omega) (by omega)).trans h.bs.row,h.bs.ne,h.bs.lt⟩
theorem cntSet_c {w0:World} {K X Bt S:Nat} (hp:CntP w0 K X Bt S) (g n j M t:Nat) (key:Value) (wr:World) (ht:t<8) (h:CntW w0 K X g n Bt S j M key wr):
 Calls Tryz.prog 317 #[.pointer (some ⟨Bt,0,none⟩), .pointer (some ⟨Bt,0,none⟩), .int .i64 t, .int .u64 1] wr fun e w'=>e= .returned (.pointer (some ⟨Bt,0,none⟩))∧CntW w0 K X g n Bt S j (M|||2^t) key w':=by
 have h0:=hp.k0
 have h1:=hp.kx
 have h2:=hp.xs
 have h3:=hp.sb
 refine(setBit_c Bt S M t wr h.bs ht).mono ?_
 rintro e w' ⟨rfl,hb,hf⟩
 exact⟨rfl,hf.low w0 (fun k hk=>by omega) h.low,(hf.far K (by omega)).trans h.it,(hf.far X (by omega)).trans h.xb,hb⟩
set_option maxRecDepth 100000 in
set_option maxHeartbeats 2000000 in
theorem count_c (n:Nat) (hn:n≤8) (g1 g2 K B1 B2:Nat) (es1 es2:List HEnt) (i1 i2:Int) (x y:VT) (w0 w:World) (hB:Below w0.heap.size w0 w) (hI:ItB w K g2 es2.length 0) (hK:w0.heap.size≤K) (s1:SetI B1 n w0 g1 es1 x i1) (s2:SetI B2 n w0 g2 es2 y i2)
 (c1: ∀k∈x.f5,CT n k) (c2: ∀k∈y.f5,CT n k) (D1:SetOk n x.f5) (D2:SetOk n y.f5) (hTr:Thr w0) (hL:Lim w0):
 Calls Tryz.prog 314 #[.pointer (some ⟨g1,0,none⟩), .iface 218 (.pointer (some ⟨K,0,none⟩))] w fun e w'=> ∃c:Nat,e= .returned (.tuple #[.int .i64 c, .nilIface])∧(c==x.f5.length)=inAll x y∧ ∃j,Below w0.heap.size w0 w'∧ItB w' K g2 es2.length j:=by
 have hx8:x.f5.length≤8:=D1.1
 have hk1:es1.length≤8:=by have:=s1.2.1;omega
 have hk2:es2.length≤8:=by have:=D2.1;have:=s2.2.1;omega
 have hKw:=lt_blk hI
 have hl1:=s1.2.1
 have hl2:=s2.2.1
 have hx: ∀k∈x.f5,HC n k:=fun k hk=>hc_of (c1 k hk) (D1.2.1 k hk)
 have hy: ∀k∈y.f5,HC n k:=fun k hk=>hc_of (c2 k hk) (D2.2.1 k hk)
 have hts:=tabSome
 have hmn:=methNext (.pointer (some ⟨K,0,none⟩))
 have htn:=tabNone
 by_cases hne:es1=[]
 ·have hx0:x.f5=[]:=List.eq_nil_of_length_eq_zero (by rw[hl1,hne];rfl)
  have ht:HTab w g1 185 false es1 i1:=by
   have:=s1.1.below hB
   rw[hne] at this⊢
   exact this
  have q0:=ht.c0
  have HR:Hid (((0:Nat)==x.f5.length)=inAll x y):=Lib.hid (by unfold inAll;rw[hx0];rfl)
  have HE:=Lib.hid (And.intro hB hI)
  clear hB hI s1 s2 c1 c2 D1 D2 hTr hL ht hx hy
  go_enter Tryz.func314,Tryz.ntmps314
  go_wp2
  go_ret2
  exact⟨0,rfl,HR.out,_,HE.out⟩
 have hb:(!es1.isEmpty)=true:=by cases es1;exact absurd rfl hne;rfl
 obtain⟨W1,hW1⟩: ∃W,W=w.alloc (.cells #[.nilIface] 57):=⟨_,rfl⟩
 obtain⟨W2,hW2⟩: ∃W,W=W1.alloc (.cells #[.int .u64 0] 265):=⟨_,rfl⟩
 obtain⟨W3,hW3⟩: ∃W,W=W2.alloc (.cells #[.bool false, .slice none 0 0] 196):=⟨_,rfl⟩
 have z1:W1.heap.size=w.heap.size+1:=by rw[hW1];simp
 have z2:W2.heap.size=w.heap.size+2:=by rw[hW2];simp[z1]
 have b1:Below w.heap.size w W1:=by rw[hW1];exact(Below.refl _ _).alloc (Nat.le_refl _) _
 have b2:Below W1.heap.size W1 W2:=by rw[hW2];exact(Below.refl _ _).alloc (Nat.le_refl _) _
 have b3:Below W2.heap.size W2 W3:=by rw[hW3];exact(Below.refl _ _).alloc (Nat.le_refl _) _
 have k1:W1.heap[w.heap.size]?=some (.cells #[.nilIface] 57 (0,0)):=by rw[hW1];exact blk_new _ _
 have k2:W2.heap[w.heap.size+1]?=some (.cells #[.int .u64 0] 265 (0,0)):=by rw[hW2,←z1];exact blk_new _ _
 have k3:W3.heap[w.heap.size+2]?=some (.cells #[.bool false, .slice none 0 0] 196 (0,0)):=by rw[hW3,←z2];exact blk_new _ _
 have hmk1:=mkWord W1
 have hmk2:=mkInt W2
 rw[←hW2,z1] at hmk1
 rw[←hW3,z2] at hmk2
 have hw1:Below w0.heap.size w0 W1:=hB.trans (b1.mono hB.size)
 have hw2:=hw1.trans (b2.mono hw1.size)
 have hw3:=hw2.trans (b3.mono hw2.size)
 have HP:Hid (CntP w0 K w.heap.size (w.heap.size+2) (w.heap.size+1)):=Lib.hid ⟨hK,hKw,by omega,by omega⟩
 have HSB:=Lib.hid (setBits_c (w.heap.size+2) (w.heap.size+1) W3.drew (show W3.drew.heap[w.heap.size+2]?=_ from k3) (show W3.drew.heap[w.heap.size+1]?=_ from(blk_below k2 b3:W3.heap[w.heap.size+1]?=_)) (by omega))
 have HW3:=Lib.hid (And.intro hw3 (And.intro (blk_below (blk_below (blk_below hI b1) b2) b3) (blk_below (blk_below k1 b2) b3)))
 have HN:Hid (∀j (hj:j<es2.length) (M:Nat) (key:Value) (wr:World),CntW w0 K w.heap.size g2 es2.length (w.heap.size+2) (w.heap.size+1) j M key wr→Calls Tryz.prog 388 #[.pointer (some ⟨K,0,none⟩), .pointer (some ⟨w.heap.size,0,none⟩)] wr fun e w'=>e= .returned (.bool true)∧CntW w0 K w.heap.size g2 es2.length (w.heap.size+2) (w.heap.size+1) (j+1) M es2[j].k w'):=Lib.hid fun j hj M key wr h=>cntNext_c HP.out g2 _ _ es2 i2 j M key wr s2.1 hk2 hj (s2.2.2 j hj (by omega)).1.iface h
 have HE:Hid (∀(M:Nat) (key:Value) (wr:World),CntW w0 K w.heap.size g2 es2.length (w.heap.size+2) (w.heap.size+1) es2.length M key wr→Calls Tryz.prog 388 #[.pointer (some ⟨K,0,none⟩), .pointer (some ⟨w.heap.size,0,none⟩)] wr fun e w'=>e= .returned (.bool false)∧w'=wr):=Lib.hid fun M key wr h=>nextEnd_c K _ g2 _ wr h.it
 have HHs:Hid (∀j (hj:j<es2.length) W,Below w0.heap.size w0 W→HashC W es2[j].k (hT (y.f5[j]'(by omega)))):=Lib.hid fun j hj W hW=>hashC_tree n B2 W _ _ ((s2.2.2 j hj (by omega)).1.below hW) (hy _ (List.getElem_mem _)) hn
 have HEq:Hid (∀j (hj:j<es2.length) i (hi:i<es1.length) W,Below w0.heap.size w0 W→Calls Tryz.prog 121 #[es2[j].k,es1[i].k] W fun e W'=>e= .returned (.tuple #[.bool (eqAt x.f5 y.f5 j i), .nilIface])∧Below W.heap.size W W'):=Lib.hid fun j hj i hi W hW=>by
  rw[eqAt_eq (by omega) (by omega)]
  exact equalHC_c n n B2 B1 _ _ _ _ W ((s2.2.2 j hj (by omega)).1.below hW) ((s1.2.2 i hi (by omega)).1.below hW) (hy _ (List.getElem_mem _)) (hx _ (List.getElem_mem _)) hn (hTr.below hW) (hL.below hW)
 have HNo:Hid (∀j (hj:j<y.f5.length) i (hi:i<es1.length),¬es1[i].h=hkey y.f5[j]→eqAt x.f5 y.f5 j i=false):=Lib.hid fun j hj i hi h=>by
  rw[eqAt_eq (by omega) (by omega)]
  cases hq:EQ (y.f5[j]'(by omega)) (x.f5[i]'(by omega)) with
  |false=>rfl
  |true=>exact absurd ((s1.2.2 i hi (by omega)).2.2.trans (hkey_eq (hy _ (List.getElem_mem _)) (hx _ (List.getElem_mem _)) hq).symm) h
 have HIF:Hid ((∀j (hj:j<es2.length),∃T x,es2[j].k= .iface T x)∧ ∀i (hi:i<es1.length),∃T x,es1[i].k= .iface T x):=Lib.hid ⟨fun j hj=>(s2.2.2 j hj (by omega)).1.iface,fun i hi=>(s1.2.2 i hi (by omega)).1.iface⟩
 have HOne:Hid (∀{q r i:Nat},q<r→r<y.f5.length→i<x.f5.length→eqAt x.f5 y.f5 r i=true→eqAt x.f5 y.f5 q i=false):=Lib.hid fun h1 h2 h3 h4=>eqAt_one hx hy D2.2.2 h1 h2 h3 h4
 have ht1:HTab w0 g1 185 true es1 i1:=by have:=s1.1;rw[hb] at this;exact this
 have q0:=(ht1.below hB).c0
 have q1:=(ht1.below hw1).c0
 have q2:=(ht1.below hw2).c0
 have HT1:=Lib.hid ht1
 clear hB hI b1 b2 b3 k1 k2 k3 hw1 hw2 hw3 hW3 hW2 ht1 hK hKw s1 s2 c1 c2 D1 D2 hTr hL hx hy
 go_enter Tryz.func314,Tryz.ntmps314
 go_upto_region 4 with fail
 rw[←hW1]
 clear hW1
 have hw1i:IntKind.i64.wrap (0+1)=1:=by decide
 have hw1j:IntKind.i64.wrap 1=1:=by decide
 go_wp2_with fail
 refine wp_loop_rounds 2 ?_
 rw[rounds_succ]
 go_wp2_with fail
 go_region_held3 (fun W=>True) (trivial) (first|(go_at_call 315;(with_reducible refine HSB.out.mono ?_);rintro e w1 ⟨rfl,hbs,hf⟩;have HBS:=Lib.hid hbs;have HF:=Lib.hid hf;clear hbs hf))
 all_goals
  have HW:Hid (CntW w0 K w.heap.size g2 es2.length (w.heap.size+2) (w.heap.size+1) 0 0 .nilIface w1):=Lib.hid
   ⟨HF.out.of_drew.low w0 (fun k hk=>by have:=HP.out.k0;have:=HP.out.kx;omega) HW3.out.1,(HF.out.far K (by have:=HP.out.kx;omega)).trans HW3.out.2.1,(HF.out.far w.heap.size (by omega)).trans HW3.out.2.2,HBS.out⟩
  go_wp2_with fail
  rw[rounds_succ]
  go_wp2_with fail
  clear hmk1 hmk2 q0 q1 q2 z1 z2
  go_loopw [7] (fun cnt wr=> ∃(j c M:Nat) (key:Value),j≤es2.length∧cnt= .int .i64 (c:Int)∧Hid (CntR x.f5 y.f5 j 0 c M)∧Hid (CntW w0 K w.heap.size g2 es2.length (w.heap.size+2) (w.heap.size+1) j M key wr)) (fun cnt wr=>itOff wr K)
  case atStart=>exact⟨0,0,0,_,Nat.zero_le _,rfl,Lib.hid (cnt_start _ _),HW⟩
  case round=>
   obtain⟨j,c,M,key,hj0,rfl,HR,HWr⟩:=hrel
   by_cases hlt:j<es2.length
   ·have HNj:=Lib.hid (HN.out j hlt M key wr HWr.out)
    have HIt:=Lib.hid HWr.out.it
    obtain⟨TK,kx,hk⟩:=HIF.out.1 j hlt
    have HHj:=Lib.hid (HHs.out j hlt)
    have HEj:=Lib.hid (HEq.out j hlt)
    have hly:j<y.f5.length:=by omega
    have HNoj:=Lib.hid (HNo.out j hly)
    obtain⟨h,hh0⟩: ∃h,hT y.f5[j]=h:=⟨_,rfl⟩
    obtain⟨hh,hhh⟩: ∃hh,(if h=0 then 1 else h)=hh:=⟨_,rfl⟩
    have hnz: ¬hh=0:=by rw[←hhh];split<;>omega
    have hkk:hkey y.f5[j]=hh:=by unfold hkey;rw[hh0,hhh]
    have HHH:=Lib.hid hhh
    have hand:=and0 hh
    rw[hh0] at HHj
    rw[hkk] at HNoj
    rw[hk] at HNj HHj HEj
    have HJ:=Lib.hid hlt
    clear hk hh0 hhh hkk hlt HN HHs HEq HNo
    by_cases hc:c=es1.length
    ·have d1:((c:Int) !=(es1.length:Int))=false:=by simp[hc]
     have HD:=Lib.hid (HR.out.done (Nat.le_of_lt hly) (Or.inl (hc.trans hl1.symm)))
     clear hc
     go_wp2_with (go_at_call 388;(with_reducible refine HNj.out.mono ?_);rintro e w5 ⟨rfl,hm⟩;have c42:=(HT1.out.below hm.low).c42;have HM:=Lib.hid hm;clear hm)
     go_ret2
     exact⟨c,rfl,HD.out,_,HM.out.low,HM.out.it⟩
    ·have d1:((c:Int) !=(es1.length:Int))=true:=by simp;omega
     clear hc
     obtain⟨T',x',K',e',⟨hm',he'⟩,hc'⟩:=HHj.out w0 (Below.refl _ _)
     cases e'
     have HC':=Lib.hid hc'
     clear hc' HHj
     obtain⟨wo,rfl⟩: ∃wo:World,wo=wr:=⟨_,rfl⟩
     go_wp2_with fail
     go_upto_if 75 with(first
      |(go_at_call 388;(with_reducible refine HNj.out.mono ?_);rintro e w5 ⟨rfl,hm⟩;have c42:=(HT1.out.below hm.low).c42;have x0:=blk_cell hm.xb 0 _ rfl;have HM:=Lib.hid hm;clear hm)
      |(go_at_fn K';(with_reducible refine(HC'.out _ HM.out.low).mono ?_);rintro e w6 ⟨rfl,hb6⟩;replace HM:=Lib.hid (HM.out.below hb6);clear hb6 c42 x0))
     go_cut [11] (fun a wx=>a= .int .u32 hh∧wx=w6)
     case first=>
      by_cases hz:h=0
      ·subst hz
       have e1:Hid (hh=1):=Lib.hid (by have:=HHH.out;simpa using this.symm)
       obtain rfl:=e1.out
       go_wp2
       go_meet
       exact⟨rfl,rfl⟩
      ·have e1:Hid (hh=h):=Lib.hid (by have:=HHH.out;rw[if_neg hz] at this;exact this.symm)
       obtain rfl:=e1.out
       have hzb:(hh==0)=false:=by simp[hz]
       go_wp2
       go_meet
       exact⟨rfl,rfl⟩
     case rest=>
      obtain⟨rfl,rfl⟩:=hcut
      clear HC' hm' he' HHH HNj
      have d0:wc.cell? ⟨g1,0,none⟩=some (.slice (some ⟨g1,1,none⟩) 1 1):=(HT1.out.below HM.out.low).c0
      have hw0:IntKind.i64.wrap 0=0:=by decide
      have hwu:IntKind.u32.wrap 0=0:=by decide
      go_wp2_with fail
      refine wp_loop_rounds 2 ?_
      rw[rounds_succ]
      go_wp2_with fail
      go_loopw [7,97] (fun cnt i wr=> ∃(s c' M':Nat),s≤8∧i= .int .i64 (s:Int)∧cnt= .int .i64 (c':Int)∧Hid (CntR x.f5 y.f5 j s c' M')∧Hid (CntW w0 K w.heap.size g2 es2.length (w.heap.size+2) (w.heap.size+1) (j+1) M' (.iface TK kx) wr)) (fun _ i _=>8-(intOf i).toNat)
      case atStart=>exact⟨0,c,M,Nat.zero_le _,rfl,rfl,HR,HM⟩
      case round=>
       obtain⟨s,c',M',hs8,rfl,rfl,HR2,HW2⟩:=hrel
       have HTR:Hid (HTab wr g1 185 true es1 i1):=Lib.hid (HT1.out.below HW2.out.low)
       by_cases hlt8:s<8
       ·have x0:=HTR.out.slot s 0 hlt8 (by decide)
        by_cases hf:s+es1.length<8
        ·rw[slot_empty g1 es1 (7-s) (by omega)] at x0
         simp only[Nat.add_zero] at x0
         have hq3:((0:Int)==hh)=false:=by simp;exact fun e=>hnz e.symm
         have HR3:=Lib.hid (HR2.out.no hx8 hlt8 (fun h=>absurd h (by omega)))
         clear hf
         go_wp2
         go_roundw
         case rel=>exact⟨s+1,c',M',by omega,by go_num,rfl,HR3,HW2⟩
         case measure=>simp[intOf];omega
        ·have hj7:7-s<es1.length:=by omega
         have x1:=HTR.out.slot s 1 hlt8 (by decide)
         rw[(slot_full g1 es1 (7-s) hj7).1] at x0
         rw[(slot_full g1 es1 (7-s) hj7).2.1] at x1
         simp only[Nat.add_zero] at x0
         obtain⟨Ti,xi,hxi⟩:=HIF.out.2 (7-s) hj7
         have HEi:=Lib.hid (HEj.out (7-s) hj7)
         obtain⟨eh,heh⟩: ∃eh,es1[7-s].h=eh:=⟨_,rfl⟩
         have HNi:=Lib.hid (HNoj.out (7-s) hj7)
         obtain⟨b,hbb⟩: ∃b,eqAt x.f5 y.f5 j (7-s)=b:=⟨_,rfl⟩
         have hx7:7-s<x.f5.length:=by omega
         have HBB:=Lib.hid hbb
         rw[hxi,hbb] at HEi
         rw[hxi] at x1
         rw[heh] at x0 HNi
         have H8:=Lib.hid hlt8
         clear hxi heh hbb hf
         by_cases hhe:eh=hh
         ·subst hhe
          have hq1:(eh==eh)=true:=by simp
          have xk:wr.cell? ⟨w.heap.size,0,none⟩=some (.iface TK kx):=blk_cell HW2.out.xb 0 _ rfl
          have HK:Hid (∀W,Below wr.heap.size wr W→W.cell? ⟨w.heap.size,0,none⟩=some (.iface TK kx)∧W.cell? ⟨g1,1+s*5+1,none⟩=some (.iface Ti xi)):=Lib.hid fun W hW=>⟨(hW.cell (p:=⟨w.heap.size,0,none⟩) (lt_of_cell xk)).trans xk,(hW.cell (p:=⟨g1,1+s*5+1,none⟩) (lt_of_cell x1)).trans x1⟩
          have hws:IntKind.i64.wrap (s:Int)=(s:Int):=IntWalk.i64_in _ (by omega)
          cases b
          ·have HR3:=Lib.hid (HR2.out.no hx8 hlt8 (fun _=>HBB.out))
           go_upto_region 28 with fail
           go_region_held3 (fun W=>W.cell? ⟨w.heap.size,0,none⟩=some (.iface TK kx)∧W.cell? ⟨g1,1+s*5+1,none⟩=some (.iface Ti xi)) (first|(with_reducible exact⟨xk,x1⟩)|exact HK.out _ HB7.out|exact⟨xk,x1⟩) (first|(go_at_call 121;(with_reducible refine(HEi.out _ (by first|exact HW2.out.low|exact HW2.out.low.drew)).mono ?_);rintro e w7 ⟨rfl,hb7⟩;have HB7:Hid (Below wr.heap.size wr w7):=Lib.hid (by first|exact hb7|exact(Below.refl _ wr).drew.trans hb7);have HW3:Hid (CntW w0 K w.heap.size g2 es2.length (w.heap.size+2) (w.heap.size+1) (j+1) M' (.iface TK kx) w7):=Lib.hid (by first|exact HW2.out.below hb7|exact(HW2.out.below (Below.refl _ wr).drew).below hb7);clear hb7))
           all_goals
            go_wp2_with fail
            go_roundw
            case rel=>exact⟨s+1,c',M',H8.out,by go_num,rfl,HR3,HW3⟩
            case measure=>simp[intOf];omega
          ·obtain⟨hbit,hr3⟩:=HR2.out.yes hx8 hlt8 hx7 HBB.out (fun q hq=>HOne.out hq hly hx7 HBB.out)
           have HR3:=Lib.hid hr3
           have HBit:=Lib.hid hbit
           clear hbit hr3
           go_upto_region 28 with fail
           go_region_held3 (fun W=>W.cell? ⟨w.heap.size,0,none⟩=some (.iface TK kx)∧W.cell? ⟨g1,1+s*5+1,none⟩=some (.iface Ti xi)) (first|(with_reducible exact⟨xk,x1⟩)|exact HK.out _ HB7.out|exact⟨xk,x1⟩) (first|(go_at_call 121;(with_reducible refine(HEi.out _ (by first|exact HW2.out.low|exact HW2.out.low.drew)).mono ?_);rintro e w7 ⟨rfl,hb7⟩;have HB7:Hid (Below wr.heap.size wr w7):=Lib.hid (by first|exact hb7|exact(Below.refl _ wr).drew.trans hb7);have HW3:Hid (CntW w0 K w.heap.size g2 es2.length (w.heap.size+2) (w.heap.size+1) (j+1) M' (.iface TK kx) w7):=Lib.hid (by first|exact HW2.out.below hb7|exact(HW2.out.below (Below.refl _ wr).drew).below hb7);clear hb7))
           all_goals
            have HBc:=Lib.hid (bit_c (w.heap.size+2) (w.heap.size+1) M' s w7 HW3.out.bs hlt8 HBit.out)
            clear x0 x1 xk
            go_upto_region 34 with(go_at_call 316;(with_reducible refine HBc.out.mono ?_);rintro e w8 ⟨rfl,hw8⟩;have hw9:=hw8.symm;clear hw8;subst hw9)
            have HSt:=Lib.hid (cntSet_c HP.out g2 es2.length (j+1) M' s (.iface TK kx) w7.drew hlt8 (HW3.out.below (Below.refl _ w7).drew))
            go_region_held3 (fun W=>True) (trivial) (first|(go_at_call 317;(with_reducible refine HSt.out.mono ?_);rintro e w10 ⟨rfl,hc10⟩;have HW4:=Lib.hid hc10;clear hc10))
            all_goals
             have hc8:=HR2.out.le
             go_wp2_with fail
             go_roundw
             case rel=>exact⟨s+1,c'+1,_,H8.out,by go_num,by go_num,HR3,HW4⟩
             case measure=>simp[intOf];omega
         ·have hq1:(eh==hh)=false:=by simp[hhe]
          have HR3:=Lib.hid (HR2.out.no hx8 hlt8 (fun _=>HNi.out hhe))
          clear hhe
          go_wp2
          go_roundw
          case rel=>exact⟨s+1,c',M',H8.out,by go_num,rfl,HR3,HW2⟩
          case measure=>simp[intOf];omega
       ·obtain rfl:s=8:=by omega
        have d41:=HTR.out.c41
        go_wp2_with fail
        rw[rounds_succ]
        go_wp2_with fail
        go_roundw
        case rel=>exact⟨j+1,c',M',_,HJ.out,rfl,Lib.hid HR2.out.next,HW2⟩
        case measure=>exact itOff_next HIt.out HW2.out.it HJ.out hk2
   ·obtain rfl:j=es2.length:=by omega
    have HEj:=Lib.hid (HE.out _ _ _ HWr.out)
    go_wp2_with (go_at_call 388;(with_reducible refine HEj.out.mono ?_);rintro e w5 ⟨rfl,hw5⟩;have hw6:=hw5.symm;clear hw5;subst hw6)
    go_ret2
    exact⟨c,rfl,HR.out.done (by omega) (Or.inr hl2.symm),_,HWr.out.low,HWr.out.it⟩
set_option maxRecDepth 100000 in
theorem subset_c (g1 K:Nat) (tab:Bool) (es1:List HEnt) (i1:Int) (m:Nat) (P:World→Prop) (b:Bool) (w0 w:World) (hB:Below w0.heap.size w0 w) (ht:HTab w0 g1 185 tab es1 i1) (hk1:es1.length≤8) (hm:m=es1.length) (hP: ∀W,P W→Below w0.heap.size w0 W)
 (HC:Calls Tryz.prog 314 #[.pointer (some ⟨g1,0,none⟩), .iface 218 (.pointer (some ⟨K,0,none⟩))] w fun e w'=> ∃c:Nat,e= .returned (.tuple #[.int .i64 c, .nilIface])∧(c==m)=b∧P w'):
 Calls Tryz.prog 312 #[.pointer (some ⟨g1,0,none⟩), .iface 218 (.pointer (some ⟨K,0,none⟩))] w fun e w'=>e= .returned (.tuple #[.bool b, .nilIface])∧P w':=by
 subst hm
 have HL:=Lib.hid fun W (hW:Below w0.heap.size w0 W)=>setLen_c g1 tab es1 i1 W (ht.below hW) (by omega)
 have HCC:=Lib.hid HC
 have HPP:=Lib.hid hP
 clear HC ht hB hP
 go_enter Tryz.func312,Tryz.ntmps312
 go_wp2_with (first
  |(go_at_call 314;(with_reducible refine HCC.out.mono ?_);rintro e w1 ⟨c,rfl,hc,hp⟩;have HQ:=Lib.hid (And.intro hc hp);clear hc hp)
  |(go_at_call 96;(with_reducible refine(HL.out _ (HPP.out _ HQ.out.2)).mono ?_);rintro e w2 ⟨rfl,hw2⟩;have hw3:=hw2.symm;clear hw2;subst hw3))
 go_ret2
 refine⟨?_,HQ.out.2⟩
 have e:((c:Int)==(es1.length:Int))=b:=by
  rw[←HQ.out.1,Bool.eq_iff_iff,beq_iff_eq,beq_iff_eq]
  omega
 rw[←e]
 rfl
def CdT (n:Nat) (lo:Int):Prop:= ∀(d:Int),lo≤d→d≤1000→ ∀(k:Int),KOk k→ ∀(B1 B2:Nat) (v1 v2:Value) (x y:VT) (w:World),PV B1 n w v1 x→PV B2 n w v2 y→CT n x→CT n y→Thr w→Lim w→
 Calls Tryz.prog 29 #[.int .i8 (tokOf k),v1,v2, .int .i64 d] w fun e w'=>CmpR (cmpV (n+1) k x y) e∧Below w.heap.size w w'
def ICR (o:Option Bool) (e:Ending):Prop:=e= .returned (.tuple #[.bool (o.getD false), .bool o.isSome, .bool true])
theorem errNeNil (T:TypeId) (a:Value) (w:World):(binOp .eql 66 (.iface T a) .nilIface).run Tryz.prog w= .ok (.bool false) w:=by kernel_rfl
set_option maxRecDepth 100000 in
theorem starCompare_c (k:Int) (v1 v2:Value) (o:Option Bool) (w:World) (hL:Lim w)
 (HC:Hid (Calls Tryz.prog 29 #[.int .i8 (tokOf k),v1,v2, .int .i64 10] w fun e w'=>CmpR o e∧Below w.heap.size w w')):
 Calls Tryz.prog 37 #[.int .i8 (tokOf k),v1,v2] w fun e w'=>CmpR o e∧Below w.heap.size w w':=by
 unfold Lim at hL
 cases o
 ·go_enter Tryz.func37,Tryz.ntmps37
  go_wp2_with (go_at_call 29;(with_reducible refine HC.out.mono ?_);rintro e w1 ⟨⟨T,a,rfl⟩,hb1⟩;have HB:=Lib.hid hb1;clear hb1)
  go_ret2
  exact⟨⟨_,_,rfl⟩,HB.out⟩
 ·go_enter Tryz.func37,Tryz.ntmps37
  go_wp2_with (go_at_call 29;(with_reducible refine HC.out.mono ?_);rintro e w1 ⟨rfl,hb1⟩;have HB:=Lib.hid hb1;clear hb1)
  go_ret2
  exact⟨rfl,HB.out⟩
set_option maxRecDepth 100000 in
set_option maxHeartbeats 1000000 in
theorem implCompareDepth_c (n:Nat) (hn:n≤8) (k d:Int) (hk:KOk k) (hT0:CdT n d) (hd:d≤1000) (v1 v2:Value) (x y:VT) (w:World) (h1:VR w v1 x) (h2:VR w v2 y) (cx:CT n x) (cy:CT n y) (hT:Thr w) (hL:Lim w):
 Calls Tryz.prog 12 #[.int .i64 k,v1,v2, .int .i64 d] w fun e w'=>ICR (cmpV (n+1) k x y) e∧Below w.heap.size w w':=by
 have HV1:=Lib.hid fun W (hW:Below w.heap.size w W)=>value_c n hn x v1 W (h1.below hW) cx (hT.below hW) (hL.below hW)
 have HV2:=Lib.hid fun W (hW:Below w.heap.size w W)=>value_c n hn y v2 W (h2.below hW) cy (hT.below hW) (hL.below hW)
 obtain⟨o,ho⟩: ∃o,cmpV (n+1) k x y=o:=⟨_,rfl⟩
 have HD:Hid (∀(B1 B2:Nat) (u1 u2:Value) W,Below w.heap.size w W→PV B1 n W u1 x→PV B2 n W u2 y→Calls Tryz.prog 29 #[.int .i8 (tokOf k),u1,u2, .int .i64 d] W fun e W'=>CmpR o e∧Below W.heap.size W W'):=Lib.hid fun B1 B2 u1 u2 W hW p1 p2=>by
  have:=hT0 d (Int.le_refl _) hd k hk B1 B2 u1 u2 x y W p1 p2 cx cy (hT.below hW) (hL.below hW)
  rw[ho] at this
  exact this
 have HC:=Lib.hid fun W=>comparing_c k W hk
 obtain⟨A2,c2,A5,c5,rfl,_⟩:=h1.open
 obtain⟨A2',c2',A5',c5',rfl,_⟩:=h2.open
 obtain⟨W0,hW0⟩: ∃W,W=(w.alloc (.cells (six5 x A2 c2 A5 x.f5.length c5) 26)).alloc (.cells (six5 y A2' c2' A5' y.f5.length c5') 26):=⟨_,rfl⟩
 obtain⟨hb0,k1,k2⟩:=two_new w (six5 x A2 c2 A5 x.f5.length c5) (six5 y A2' c2' A5' y.f5.length c5')
 rw[←hW0] at hb0 k1 k2
 have HB:=Lib.hid hb0
 have HK1:=Lib.hid k1
 have HK2:=Lib.hid k2
 rw[ho]
 clear h1 h2 cx cy hT hL hT0 ho hb0
 obtain⟨z0,z1,z2,z3,z4,z5⟩:=cells6 k1
 clear k1 k2
 have hnn:=errNeNil
 have HGO: ∀(b:Bool) (hb:o=some b∨(o=none∧b=false)),Calls Tryz.prog 12 #[.int .i64 k, .agg (six5 x A2 c2 A5 x.f5.length c5), .agg (six5 y A2' c2' A5' y.f5.length c5'), .int .i64 d] w fun e w'=>ICR o e∧Below w.heap.size w w':=by
  intro b hb
  rcases hb with rfl|⟨rfl,rfl⟩
  ·cases b
   all_goals
    go_enter Tryz.func12,Tryz.ntmps12
    go_wp2_with fail
    rw[←hW0]
    clear hW0
    go_wp2_with (first
     |(go_at_call 28;(with_reducible refine(HC.out _).mono ?_);rintro e w1 ⟨rfl,hb1⟩;replace HK1:=Lib.hid (blk_below HK1.out hb1);replace HK2:=Lib.hid (blk_below HK2.out hb1);replace HB:=Lib.hid (HB.out.trans (hb1.mono HB.out.size));clear hb1 z0 z1 z2 z3 z4 z5;obtain⟨z0,z1,z2,z3,z4,z5⟩:=cells6 HK1.out)
     |(go_at_call 27;(with_reducible refine(HV1.out _ HB.out).mono ?_);rintro e w2 ⟨u1,rfl,hp1,hb2⟩;obtain⟨T1,y1,rfl⟩:=hp1.iface;have HP1:=Lib.hid hp1;replace HK2:=Lib.hid (blk_below HK2.out hb2);replace HB:=Lib.hid (HB.out.trans (hb2.mono HB.out.size));clear hb2 hp1 z0 z1 z2 z3 z4 z5;obtain⟨z0,z1,z2,z3,z4,z5⟩:=cells6 HK2.out)
     |(go_at_call 27;(with_reducible refine(HV2.out _ HB.out).mono ?_);rintro e w3 ⟨u2,rfl,hp2,hb3⟩;obtain⟨T2,y2,rfl⟩:=hp2.iface;have HP2:=Lib.hid hp2;replace HP1:=Lib.hid (HP1.out.below hb3);replace HB:=Lib.hid (HB.out.trans (hb3.mono HB.out.size));clear hb3 hp2 z0 z1 z2 z3 z4 z5)
     |(go_at_call 29;(with_reducible refine(HD.out _ _ _ _ _ HB.out HP1.out HP2.out).mono ?_);rintro e w4 ⟨rfl,hb4⟩;replace HB:=Lib.hid (HB.out.trans (hb4.mono HB.out.size));clear hb4))
    first|go_quiet (fail)|go_region
    all_goals
     go_wp2_with fail
     exact bodyPost_ret (v:= .tuple #[.bool _, .bool true, .bool true]) (by simp[results,Tryz.results12,go_sem]) rfl ⟨rfl,pw_below_drewN HB.out _⟩
  ·go_enter Tryz.func12,Tryz.ntmps12
   go_wp2_with fail
   rw[←hW0]
   clear hW0
   go_wp2_with (first
    |(go_at_call 28;(with_reducible refine(HC.out _).mono ?_);rintro e w1 ⟨rfl,hb1⟩;replace HK1:=Lib.hid (blk_below HK1.out hb1);replace HK2:=Lib.hid (blk_below HK2.out hb1);replace HB:=Lib.hid (HB.out.trans (hb1.mono HB.out.size));clear hb1 z0 z1 z2 z3 z4 z5;obtain⟨z0,z1,z2,z3,z4,z5⟩:=cells6 HK1.out)
     |(go_at_call 27;(with_reducible refine(HV1.out _ HB.out).mono ?_);rintro e w2 ⟨u1,rfl,hp1,hb2⟩;obtain⟨T1,y1,rfl⟩:=hp1.iface;have HP1:=Lib.hid hp1;replace HK2:=Lib.hid (blk_below HK2.out hb2);replace HB:=Lib.hid (HB.out.trans (hb2.mono HB.out.size));clear hb2 hp1 z0 z1 z2 z3 z4 z5;obtain⟨z0,z1,z2,z3,z4,z5⟩:=cells6 HK2.out)
     |(go_at_call 27;(with_reducible refine(HV2.out _ HB.out).mono ?_);rintro e w3 ⟨u2,rfl,hp2,hb3⟩;obtain⟨T2,y2,rfl⟩:=hp2.iface;have HP2:=Lib.hid hp2;replace HP1:=Lib.hid (HP1.out.below hb3);replace HB:=Lib.hid (HB.out.trans (hb3.mono HB.out.size));clear hb3 hp2 z0 z1 z2 z3 z4 z5)
    |(go_at_call 29;(with_reducible refine(HD.out _ _ _ _ _ HB.out HP1.out HP2.out).mono ?_);rintro e w4 ⟨⟨T3,a3,rfl⟩,hb4⟩;replace HB:=Lib.hid (HB.out.trans (hb4.mono HB.out.size));clear hb4))
   first|go_quiet (fail)|go_region
   all_goals
    go_wp2_with fail
    exact bodyPost_ret (v:= .tuple #[.bool false, .bool false, .bool true]) (by simp[results,Tryz.results12,go_sem]) rfl ⟨rfl,pw_below_drewN HB.out _⟩
 cases o with
 |none=>exact HGO false (Or.inr ⟨rfl,rfl⟩)
 |some b=>exact HGO b (Or.inl rfl)
set_option maxRecDepth 100000 in
set_option maxHeartbeats 1000000 in
theorem implCompare_c (n:Nat) (hn:n≤8) (k:Int) (hk:KOk k) (hT0:CdT n 10) (v1 v2:Value) (x y:VT) (w:World) (h1:VR w v1 x) (h2:VR w v2 y) (cx:CT n x) (cy:CT n y) (hT:Thr w) (hL:Lim w):
 Calls Tryz.prog 14 #[.int .i64 k,v1,v2] w fun e w'=>ICR (cmpV (n+1) k x y) e∧Below w.heap.size w w':=by
 have HV1:=Lib.hid fun W (hW:Below w.heap.size w W)=>value_c n hn x v1 W (h1.below hW) cx (hT.below hW) (hL.below hW)
 have HV2:=Lib.hid fun W (hW:Below w.heap.size w W)=>value_c n hn y v2 W (h2.below hW) cy (hT.below hW) (hL.below hW)
 obtain⟨o,ho⟩: ∃o,cmpV (n+1) k x y=o:=⟨_,rfl⟩
 have HD:Hid (∀(B1 B2:Nat) (u1 u2:Value) W,Below w.heap.size w W→PV B1 n W u1 x→PV B2 n W u2 y→Calls Tryz.prog 37 #[.int .i8 (tokOf k),u1,u2] W fun e W'=>CmpR o e∧Below W.heap.size W W'):=Lib.hid fun B1 B2 u1 u2 W hW p1 p2=>by
  have:=hT0 10 (Int.le_refl _) (by decide) k hk B1 B2 u1 u2 x y W p1 p2 cx cy (hT.below hW) (hL.below hW)
  rw[ho] at this
  exact starCompare_c k u1 u2 o W (hL.below hW) (Lib.hid this)
 have HC:=Lib.hid fun W=>comparing_c k W hk
 obtain⟨A2,c2,A5,c5,rfl,_⟩:=h1.open
 obtain⟨A2',c2',A5',c5',rfl,_⟩:=h2.open
 obtain⟨W0,hW0⟩: ∃W,W=(w.alloc (.cells (six5 x A2 c2 A5 x.f5.length c5) 26)).alloc (.cells (six5 y A2' c2' A5' y.f5.length c5') 26):=⟨_,rfl⟩
 obtain⟨hb0,k1,k2⟩:=two_new w (six5 x A2 c2 A5 x.f5.length c5) (six5 y A2' c2' A5' y.f5.length c5')
 rw[←hW0] at hb0 k1 k2
 have HB:=Lib.hid hb0
 have HK1:=Lib.hid k1
 have HK2:=Lib.hid k2
 rw[ho]
 clear h1 h2 cx cy hT hL hT0 ho hb0
 obtain⟨z0,z1,z2,z3,z4,z5⟩:=cells6 k1
 clear k1 k2
 have hnn:=errNeNil
 have HGO: ∀(b:Bool) (hb:o=some b∨(o=none∧b=false)),Calls Tryz.prog 14 #[.int .i64 k, .agg (six5 x A2 c2 A5 x.f5.length c5), .agg (six5 y A2' c2' A5' y.f5.length c5')] w fun e w'=>ICR o e∧Below w.heap.size w w':=by
  intro b hb
  rcases hb with rfl|⟨rfl,rfl⟩
  ·cases b
   all_goals
    go_enter Tryz.func14,Tryz.ntmps14
    go_wp2_with fail
    rw[←hW0]
    clear hW0
    go_wp2_with (first
     |(go_at_call 28;(with_reducible refine(HC.out _).mono ?_);rintro e w1 ⟨rfl,hb1⟩;replace HK1:=Lib.hid (blk_below HK1.out hb1);replace HK2:=Lib.hid (blk_below HK2.out hb1);replace HB:=Lib.hid (HB.out.trans (hb1.mono HB.out.size));clear hb1 z0 z1 z2 z3 z4 z5;obtain⟨z0,z1,z2,z3,z4,z5⟩:=cells6 HK1.out)
     |(go_at_call 27;(with_reducible refine(HV1.out _ HB.out).mono ?_);rintro e w2 ⟨u1,rfl,hp1,hb2⟩;obtain⟨T1,y1,rfl⟩:=hp1.iface;have HP1:=Lib.hid hp1;replace HK2:=Lib.hid (blk_below HK2.out hb2);replace HB:=Lib.hid (HB.out.trans (hb2.mono HB.out.size));clear hb2 hp1 z0 z1 z2 z3 z4 z5;obtain⟨z0,z1,z2,z3,z4,z5⟩:=cells6 HK2.out)
     |(go_at_call 27;(with_reducible refine(HV2.out _ HB.out).mono ?_);rintro e w3 ⟨u2,rfl,hp2,hb3⟩;obtain⟨T2,y2,rfl⟩:=hp2.iface;have HP2:=Lib.hid hp2;replace HP1:=Lib.hid (HP1.out.below hb3);replace HB:=Lib.hid (HB.out.trans (hb3.mono HB.out.size));clear hb3 hp2 z0 z1 z2 z3 z4 z5)
     |(go_at_call 37;(with_reducible refine(HD.out _ _ _ _ _ HB.out HP1.out HP2.out).mono ?_);rintro e w4 ⟨rfl,hb4⟩;replace HB:=Lib.hid (HB.out.trans (hb4.mono HB.out.size));clear hb4))
    first|go_quiet (fail)|go_region
    all_goals
     go_wp2_with fail
     exact bodyPost_ret (v:= .tuple #[.bool _, .bool true, .bool true]) (by simp[results,Tryz.results14,go_sem]) rfl ⟨rfl,pw_below_drewN HB.out _⟩
  ·go_enter Tryz.func14,Tryz.ntmps14
   go_wp2_with fail
   rw[←hW0]
   clear hW0
   go_wp2_with (first
    |(go_at_call 28;(with_reducible refine(HC.out _).mono ?_);rintro e w1 ⟨rfl,hb1⟩;replace HK1:=Lib.hid (blk_below HK1.out hb1);replace HK2:=Lib.hid (blk_below HK2.out hb1);replace HB:=Lib.hid (HB.out.trans (hb1.mono HB.out.size));clear hb1 z0 z1 z2 z3 z4 z5;obtain⟨z0,z1,z2,z3,z4,z5⟩:=cells6 HK1.out)
     |(go_at_call 27;(with_reducible refine(HV1.out _ HB.out).mono ?_);rintro e w2 ⟨u1,rfl,hp1,hb2⟩;obtain⟨T1,y1,rfl⟩:=hp1.iface;have HP1:=Lib.hid hp1;replace HK2:=Lib.hid (blk_below HK2.out hb2);replace HB:=Lib.hid (HB.out.trans (hb2.mono HB.out.size));clear hb2 hp1 z0 z1 z2 z3 z4 z5;obtain⟨z0,z1,z2,z3,z4,z5⟩:=cells6 HK2.out)
     |(go_at_call 27;(with_reducible refine(HV2.out _ HB.out).mono ?_);rintro e w3 ⟨u2,rfl,hp2,hb3⟩;obtain⟨T2,y2,rfl⟩:=hp2.iface;have HP2:=Lib.hid hp2;replace HP1:=Lib.hid (HP1.out.below hb3);replace HB:=Lib.hid (HB.out.trans (hb3.mono HB.out.size));clear hb3 hp2 z0 z1 z2 z3 z4 z5)
    |(go_at_call 37;(with_reducible refine(HD.out _ _ _ _ _ HB.out HP1.out HP2.out).mono ?_);rintro e w4 ⟨⟨T3,a3,rfl⟩,hb4⟩;replace HB:=Lib.hid (HB.out.trans (hb4.mono HB.out.size));clear hb4))
   first|go_quiet (fail)|go_region
   all_goals
    go_wp2_with fail
    exact bodyPost_ret (v:= .tuple #[.bool false, .bool false, .bool true]) (by simp[results,Tryz.results14,go_sem]) rfl ⟨rfl,pw_below_drewN HB.out _⟩
 cases o with
 |none=>exact HGO false (Or.inr ⟨rfl,rfl⟩)
 |some b=>exact HGO b (Or.inl rfl)
theorem subO_no {k:Int} {ab ba:Bool} {n m:Nat} (hk:k=15∨k=16∨k=17∨k=18) (h1:ab=true→n≤m) (h2:ba=true→m≤n) (ho:OrdNo (tokOf k) n m):subO k ab ba n m=false:=by
  unfold OrdNo at ho
  rcases hk with rfl|rfl|rfl|rfl
  · have h:(m:Int)≤n:=by
      rcases ho with⟨e,h⟩|⟨e,h⟩|⟨e,h⟩|⟨e,h⟩<;>first|exact h|(exfalso;revert e;decide)
    show(ab&&decide (n<m))=false
    rw[decide_eq_false (by omega),Bool.and_false]
  · have h:(m:Int)<n:=by
      rcases ho with⟨e,h⟩|⟨e,h⟩|⟨e,h⟩|⟨e,h⟩<;>first|exact h|(exfalso;revert e;decide)
    show ab=false
    cases ab
    ·rfl
    ·have:=h1 rfl;omega
  · have h:(n:Int)≤m:=by
      rcases ho with⟨e,h⟩|⟨e,h⟩|⟨e,h⟩|⟨e,h⟩<;>first|exact h|(exfalso;revert e;decide)
    show(ba&&decide (m<n))=false
    rw[decide_eq_false (by omega),Bool.and_false]
  · have h:(n:Int)<m:=by
      rcases ho with⟨e,h⟩|⟨e,h⟩|⟨e,h⟩|⟨e,h⟩<;>first|exact h|(exfalso;revert e;decide)
    show ba=false
    cases ba
    ·rfl
    ·have:=h2 rfl;omega
theorem subO_over {k:Int} {ab ba:Bool} {n m:Nat} (hk:k=15∨k=16∨k=17∨k=18) (ho: ¬OrdNo (tokOf k) n m):subO k ab ba n m=if k=17∨k=18 then ba else ab:=by
  unfold OrdNo at ho
  rcases hk with rfl|rfl|rfl|rfl
  · have h:n<m:=by
      by_cases h:n<m
      ·exact h
      ·exact absurd (Or.inr (Or.inr (Or.inr ⟨rfl,by omega⟩))) ho
    show(ab&&decide (n<m))=ab
    rw[decide_eq_true h,Bool.and_true]
  ·rfl
  · have h:m<n:=by
      by_cases h:m<n
      ·exact h
      ·exact absurd (Or.inr (Or.inl ⟨rfl,by omega⟩)) ho
    show(ba&&decide (m<n))=ba
    rw[decide_eq_true h,Bool.and_true]
  ·rfl
theorem itW_facts (w:World) (g n:Nat):Below (w.setCell ⟨g,43,none⟩ (.int .u32 1)).heap.size (w.setCell ⟨g,43,none⟩ (.int .u32 1)) (itW w g n)∧ItB (itW w g n) w.heap.size g n 0∧(w.setCell ⟨g,43,none⟩ (.int .u32 1)).heap.size≤w.heap.size:=by
 have hz:(w.setCell ⟨g,43,none⟩ (.int .u32 1)).heap.size=w.heap.size:=by simp[World.setCell]
 refine⟨(Below.refl _ _).alloc (Nat.le_refl _) _,?_,by rw[hz];exact Nat.le_refl _⟩
 have:=blk_new (w.setCell ⟨g,43,none⟩ (.int .u32 1)) (.cells #[.pointer (some ⟨g,0,none⟩),entP g n 0] 280)
 rw[hz] at this
 exact this
theorem setOrd_c (k d:Int) (hk:k=15∨k=16∨k=17∨k=18) (n:Nat) (hn:n≤8) (g1 g2 B1 B2:Nat) (es1 es2:List HEnt) (x y:VT) (w:World) (s1:SetI B1 n w g1 es1 x 0) (s2:SetI B2 n w g2 es2 y 0)
    (c1: ∀k∈x.f5,CT n k) (c2: ∀k∈y.f5,CT n k) (D1:SetOk n x.f5) (D2:SetOk n y.f5) (hTr:Thr w) (hL:Lim w):
    Calls Tryz.prog 304 #[.pointer (some ⟨g1,0,none⟩), .int .i8 (tokOf k), .iface 102 (.pointer (some ⟨g2,0,none⟩)), .int .i64 d] w fun e w'=>e= .returned (.tuple #[.bool (subO k (inAll x y) (inAll y x) x.f5.length y.f5.length), .nilIface])∧Below w.heap.size w w':=by
  have hx8:=D1.1
  have hy8:=D2.1
  have l1:=s1.2.1
  have l2:=s2.2.1
  have hk1:es1.length≤8:=by omega
  have hk2:es2.length≤8:=by omega
  have hx: ∀k∈x.f5,HC n k:=fun k hk=>hc_of (c1 k hk) (D1.2.1 k hk)
  have hy: ∀k∈y.f5,HC n k:=fun k hk=>hc_of (c2 k hk) (D2.2.1 k hk)
  by_cases ho:OrdNo (tokOf k) es1.length es2.length
  · rw[subO_no hk (inAll_le hx hy D1.2.2) (inAll_le hy hx D2.2.2) (by rw[l1,l2];exact ho)]
    exact setOrdNo_c (tokOf k) d g1 g2 _ _ es1 es2 w ho s1.1 s2.1 hk1 hk2
  · rw[subO_over hk (by rw[l1,l2];exact ho)]
    obtain⟨i1,s1'⟩:=setI_it s1 s2.1 hx 1
    obtain⟨i2,s2'⟩:=setI_it s2 s2.1 hy 1
    obtain⟨hB,hI,hK⟩:=itW_facts w g2 es2.length
    have hT':=hTr.it s2.1 (.int .u32 1)
    have hL':=hL.it s2.1 (.int .u32 1)
    refine setOver_c (tokOf k) d _ g1 g2 _ _ es1 es2 w ?_ ho s1.1 s2.1 hk1 hk2 (fun h=>?_) (fun h=>?_)
    · rcases hk with rfl|rfl|rfl|rfl
      ·exact Or.inr (Or.inr rfl)
      ·exact Or.inr (Or.inl rfl)
      ·exact Or.inl (Or.inr rfl)
      ·exact Or.inl (Or.inl rfl)
    · have hk':k=17∨k=18:=by
        rcases hk with rfl|rfl|rfl|rfl
        ·exfalso;revert h;decide
        ·exfalso;revert h;decide
        ·exact Or.inl rfl
        ·exact Or.inr rfl
      rw[if_pos hk']
      refine(superset_c n hn g1 g2 w.heap.size B1 B2 es1 es2 i1 i2 x y _ _ hB hI hK s1' s2' c1 c2 D1 D2 hT' hL').mono ?_
      rintro e w' ⟨rfl,j,X,hm⟩
      exact⟨rfl,j,hm.low,hm.it⟩
    · have hk': ¬(k=17∨k=18):=by
        rcases hk with rfl|rfl|rfl|rfl
        ·decide
        ·decide
        ·exfalso;revert h;decide
        ·exfalso;revert h;decide
      rw[if_neg hk']
      refine(subset_c g1 w.heap.size _ es1 i1 x.f5.length (fun w'=> ∃j,Below (w.setCell ⟨g2,43,none⟩ (.int .u32 1)).heap.size (w.setCell ⟨g2,43,none⟩ (.int .u32 1)) w'∧ItB w' w.heap.size g2 es2.length j) (inAll x y) _ _ hB s1'.1 hk1 l1 (fun W hW=>hW.choose_spec.1) (count_c n hn g1 g2 w.heap.size B1 B2 es1 es2 i1 i2 x y _ _ hB hI hK s1' s2' c1 c2 D1 D2 hT' hL')).mono ?_
      rintro e w' ⟨rfl,h⟩
      exact⟨rfl,h⟩
theorem cdSet_c (k:Int) (hk:KOk k) (n:Nat) (hn:n+1≤8) (d:Int) (hd0: ¬d<1) (hd2:d≤1000) (B1 B2:Nat) (v1 v2:Value) (x y:VT) (w:World) (p1:PV B1 (n+1) w v1 x) (p2:PV B2 (n+1) w v2 y)
 (cx:CT (n+1) x) (cy:CT (n+1) y) (kx:x.f0=9) (ky:y.f0=9) (hTr:Thr w) (hL:Lim w):
 Calls Tryz.prog 29 #[.int .i8 (tokOf k),v1,v2, .int .i64 d] w fun e w'=>CmpR (cmpV (n+2) k x y) e∧Below w.heap.size w w':=by
 have HS:=sameTypeP_c p1 p2
 rw[show(x.f0==y.f0)=true by rw[kx,ky];rfl] at HS
 obtain⟨m1,hm1,bx,lx,c1,q1⟩:=cx.isBox (by omega)
 have e1:n=m1:=by omega
 subst e1
 obtain⟨m2,hm2,bY,ly,c2,q2⟩:=cy.isBox (by omega)
 have e2:n=m2:=by omega
 subst e2
 have D1:SetOk n x.f5:=by rcases q1 with h|h|⟨h,_⟩|⟨_,h⟩<;>first|exact h|(exfalso;omega)
 have D2:SetOk n y.f5:=by rcases q2 with h|h|⟨h,_⟩|⟨_,h⟩<;>first|exact h|(exfalso;omega)
 have o1: ∃g es,v1= .iface 102 (.pointer (some ⟨g,0,none⟩))∧SetI B1 n w g es x 0:=by
  rcases p1 with h|⟨_,h|h|h|h⟩
  ·exfalso;have:=h.kind;omega
  ·exfalso;omega
  ·exfalso;omega
  ·exfalso;omega
  ·obtain⟨_,g,es,e,_,r⟩:=h
   exact⟨g,es,e,r⟩
 have o2: ∃g es,v2= .iface 102 (.pointer (some ⟨g,0,none⟩))∧SetI B2 n w g es y 0:=by
  rcases p2 with h|⟨_,h|h|h|h⟩
  ·exfalso;have:=h.kind;omega
  ·exfalso;omega
  ·exfalso;omega
  ·exfalso;omega
  ·obtain⟨_,g,es,e,_,r⟩:=h
   exact⟨g,es,e,r⟩
 obtain⟨g1,es1,rfl,s1⟩:=o1
 obtain⟨g2,es2,rfl,s2⟩:=o2
 by_cases h1:k=13∨k=14
 ·rw[cmpV_eq h1]
  exact cdCmp_c 102 304 _ _ (tokOf k) d _ w hd0 hd2 as109Set methCmpSet (enters_of Tryz.func304 (by kernel_rfl) rfl) (Lib.hid HS)
   (Lib.hid fun W hW=>setSameEq_c g1 g2 (tokOf k) d (EQ x y) W (by rcases h1 with rfl|rfl;exact Or.inl rfl;exact Or.inr rfl) (Lib.hid (set_eq_c n (by omega) g1 g2 B1 B2 es1 es2 x y W cx cy hn kx ky (s1.below hW) (s2.below hW) c1 c2 D1 D2 (hTr.below hW) (hL.below hW))))
 ·rw[cmpV_set h1 kx (kx.trans ky.symm)]
  have h2:k=15∨k=16∨k=17∨k=18:=by
   unfold KOk at hk
   omega
  exact cdCmp_c 102 304 _ _ (tokOf k) d _ w hd0 hd2 as109Set methCmpSet (enters_of Tryz.func304 (by kernel_rfl) rfl) (Lib.hid HS)
   (Lib.hid fun W hW=>setOrd_c k d h2 n (by omega) g1 g2 B1 B2 es1 es2 x y W (s1.below hW) (s2.below hW) c1 c2 D1 D2 (hTr.below hW) (hL.below hW))
theorem cdTree_c: ∀(n:Nat),n≤8→CdT n ((n:Int)+1)
 |0,_=>fun d h1 h2 k hk B1 B2 v1 v2 x y w p1 p2 cx cy hT hL=>cdScaT_c k hk 0 0 d (by omega) h2 B1 B2 v1 v2 x y w p1 p2 (SC.kind cx).2 (SC.kind cy).2 hT
 |n+1,hn=>fun d h1 h2 k hk B1 B2 v1 v2 x y w p1 p2 cx cy hT hL=>by
  have ih:=cdTree_c n (by omega)
  have hd0: ¬d<1:=by omega
  have hw:IntKind.i64.wrap (d-1)=d-1:=IntWalk.i64_in _ (by omega)
  by_cases h6:x.f0<6∧y.f0<6
  ·exact cdScaT_c k hk (n+1) (n+1) d hd0 h2 B1 B2 v1 v2 x y w p1 p2 h6.1 h6.2 hT
  ·by_cases he:x.f0=y.f0
   ·have hall:CdAll n (d-1) w:=fun W hW k hk B1 B2 v1 v2 a b pa pb ca cb W' hW'=>
    have hB:=hW.trans (hW'.mono hW.size)
    ih (d-1) (by omega) (by omega) k hk B1 B2 v1 v2 a b W' (pa.below hW') (pb.below hW') ca cb (hT.below hB) (hL.below hB)
    obtain⟨m,_,_,_,_,hc⟩:=cx.isBox (by omega)
    rcases hc with hc|hc|hc|hc
    ·exact cdList_c k hk n hn d (d-1) hd0 h2 rfl hw B1 B2 v1 v2 x y w p1 p2 cx cy hc (he▸hc) hall
    ·exact cdTup_c k hk n hn d (d-1) hd0 h2 rfl hw B1 B2 v1 v2 x y w p1 p2 cx cy hc (he▸hc) hall
    ·exact cdDict_c k hk n hn d (d-1) hd0 h2 rfl hw B1 B2 v1 v2 x y w p1 p2 cx cy hc.1 (he▸hc.1) hall hT hL
    ·exact cdSet_c k hk n hn d hd0 h2 B1 B2 v1 v2 x y w p1 p2 cx cy hc.1 (he▸hc.1) hT hL
   ·refine cdUnlike_c k hk (n+1) (n+1) hn d hd0 h2 B1 B2 v1 v2 x y w p1 p2 cx cy he ?_
    unfold isNum
    rw[Bool.and_eq_false_iff]
    by_cases hx:x.f0<6
    ·right;simp;omega
    ·left;simp;omega
theorem CdT.mono {n:Nat} {a b:Int} (h:CdT n a) (hb:a≤b):CdT n b:=fun d h1=>h d (Int.le_trans hb h1)
def Six (W:World) (b:Nat):Prop:=W.heap[b]?=some (.cells #[.int .i64 0, .bool false, .slice none 0 0, .int .u64 0, .string ⟨#[]⟩, .slice none 0 0] 26 (0,0))
structure Rec where
 x:VT
 P2:Option Addr
 p2:Nat
 P5:Option Addr
 p5:Nat
abbrev Rec.row (r:Rec):Array Value:=six5 r.x r.P2 r.p2 r.P5 r.x.f5.length r.p5
abbrev Rec.cells (r:Rec):List Value:=[.int .i64 r.x.f0, .bool r.x.f1, .slice r.P2 r.x.f2.length r.p2, .int .u64 r.x.f3, .string r.x.f4, .slice r.P5 r.x.f5.length r.p5]
def Md (W:World) (s9 s10:Option Nat) (r:Rec):Prop:=CT 3 r.x∧ ∃(base:Nat) (ok:Nat→Prop),kV.M W base ok r.x r.cells∧ ∀k,ok k→k<W.heap.size∧(∀p,s9=some p→k≠p)∧ ∀q,s10=some q→k≠q
theorem Md.vr {W:World} {s9 s10:Option Nat} {r:Rec} (h:Md W s9 s10 r):VR W (.agg r.row) r.x:=by
 obtain⟨_,base,ok,hm,_⟩:=h
 exact⟨_,rfl,kV.K_of_M hm⟩
theorem Md.below {W W':World} {s9 s10:Option Nat} {r:Rec} (h:Md W s9 s10 r) (hb:Below W.heap.size W W'):Md W' s9 s10 r:=by
 obtain⟨hc,base,ok,hm,hk⟩:=h
 exact⟨hc,base,ok,Kd.M_below hm hb,fun k h=>⟨Nat.lt_of_lt_of_le (hk k h).1 hb.size,(hk k h).2⟩⟩
theorem Md.new9 {W:World} {s10:Option Nat} {r:Rec} {n:Nat} (h:Md W none s10 r) (o:Obj) (hn:n=W.heap.size):Md (W.alloc o) (some n) s10 r:=by
 obtain⟨hc,base,ok,hm,hk⟩:=h
 exact⟨hc,base,ok,Kd.M_below hm ((Below.refl _ W).alloc (Nat.le_refl _) o),fun k h=>⟨by have:=(hk k h).1;simp;omega,fun p e=>by cases e;have:=(hk k h).1;omega,(hk k h).2.2⟩⟩
theorem Md.new10 {W:World} {s9:Option Nat} {r:Rec} {n:Nat} (h:Md W s9 none r) (o:Obj) (hn:n=W.heap.size):Md (W.alloc o) s9 (some n) r:=by
 obtain⟨hc,base,ok,hm,hk⟩:=h
 exact⟨hc,base,ok,Kd.M_below hm ((Below.refl _ W).alloc (Nat.le_refl _) o),fun k h=>⟨by have:=(hk k h).1;simp;omega,(hk k h).2.1,fun p e=>by cases e;have:=(hk k h).1;omega⟩⟩
theorem Md.set {W:World} {s9 s10:Option Nat} {r:Rec} {p:Nat} (h:Md W s9 s10 r) (hp:s9=some p∨s10=some p) (o:Nat) (v:Value):Md (W.setCell ⟨p,o,none⟩ v) s9 s10 r:=by
 obtain⟨hc,base,ok,hm,hk⟩:=h
 refine⟨hc,base,ok,Kd.M_far hm (fun k h=>?_) v,fun k h=>⟨by have:=(hk k h).1;simpa [World.setCell] using this,(hk k h).2⟩⟩
 rcases hp with e|e
 ·exact(hk k h).2.1 p e
 ·exact(hk k h).2.2 p e
structure Amid (w:World) (X1 X2:Array Value) (W:World) (s9 s10:Option Nat) (r1 r2:Option Rec):Prop where
 low:Below w.heap.size w W
 b1:W.heap[w.heap.size]?=some (.cells X1 26 (0,0))
 b2:W.heap[w.heap.size+1]?=some (.cells X2 26 (0,0))
 x9: ∀p,s9=some p→Six W p∧w.heap.size+1<p
 x10: ∀q,s10=some q→Six W q∧w.heap.size+1<q
 ne: ∀p q,s9=some p→s10=some q→p≠q
 m1: ∀r,r1=some r→Md W s9 s10 r
 m2: ∀r,r2=some r→Md W s9 s10 r
theorem six_new (W:World):Six (W.alloc (.cells #[.int .i64 0, .bool false, .slice none 0 0, .int .u64 0, .string ⟨#[]⟩, .slice none 0 0] 26)) W.heap.size:=blk_new _ _
theorem Six.at {W:World} {b:Nat} (h:Six W b):(W.cell? ⟨b,0,none⟩=some (.int .i64 0)∧W.cell? ⟨b,1,none⟩=some (.bool false)∧W.cell? ⟨b,2,none⟩=some (.slice none 0 0)∧W.cell? ⟨b,3,none⟩=some (.int .u64 0)∧W.cell? ⟨b,4,none⟩=some (.string ⟨#[]⟩)∧W.cell? ⟨b,5,none⟩=some (.slice none 0 0))∧ ∀o,W.frozen? ⟨b,o,none⟩=false:=⟨cells6 h,fun o=>blk_free h o⟩
section
variable {w W:World} {X1 X2:Array Value} {s9 s10:Option Nat} {r1 r2:Option Rec}
theorem Amid.box (h:Amid w X1 X2 W s9 s10 r1 r2):W.heap[w.heap.size]?=some (.cells X1 26 (0,0))∧W.heap[w.heap.size+1]?=some (.cells X2 26 (0,0)):=⟨h.b1,h.b2⟩
theorem Amid.al9 (h:Amid w X1 X2 W none s10 r1 r2): ∃V,V=W.alloc (.cells #[.int .i64 0, .bool false, .slice none 0 0, .int .u64 0, .string ⟨#[]⟩, .slice none 0 0] 26)∧Amid w X1 X2 V (some W.heap.size) s10 r1 r2:=
 ⟨_,rfl,h.low.alloc h.low.size _,blk_alloc h.b1 _,blk_alloc h.b2 _,fun p e=>by cases e;exact⟨six_new W,lt_blk h.b2⟩,fun q e=>⟨blk_alloc (h.x10 q e).1 _,(h.x10 q e).2⟩,fun p q e e2=>by cases e;have:=lt_blk (h.x10 q e2).1;omega,fun r e=>(h.m1 r e).new9 _ rfl,fun r e=>(h.m2 r e).new9 _ rfl⟩
theorem Amid.al10 (h:Amid w X1 X2 W s9 none r1 r2): ∃V,V=W.alloc (.cells #[.int .i64 0, .bool false, .slice none 0 0, .int .u64 0, .string ⟨#[]⟩, .slice none 0 0] 26)∧Amid w X1 X2 V s9 (some W.heap.size) r1 r2:=
 ⟨_,rfl,h.low.alloc h.low.size _,blk_alloc h.b1 _,blk_alloc h.b2 _,fun q e=>⟨blk_alloc (h.x9 q e).1 _,(h.x9 q e).2⟩,fun p e=>by cases e;exact⟨six_new W,lt_blk h.b2⟩,fun p q e e2=>by cases e2;have:=lt_blk (h.x9 p e).1;omega,fun r e=>(h.m1 r e).new10 _ rfl,fun r e=>(h.m2 r e).new10 _ rfl⟩
def ClR (W:World) (e:Ending) (W':World):Prop:= ∃r:Rec,e= .returned (.agg r.row)∧Hid (kV.M W' W.heap.size (fun _=>True) r.x r.cells∧CT 3 r.x)∧Below W.heap.size W W'
theorem clR_of {e:Ending} {W':World} (h:CleanN 3 W e W'):ClR W e W':=by
 obtain⟨cs,y,rfl,hM,hct,hb⟩:=h
 obtain⟨P2,p2,P5,p5,hcs,hM2⟩:=vm_shape ⟨cs,rfl,hM⟩
 exact⟨⟨y,P2,p2,P5,p5⟩,by rw[hcs],⟨hM2,hct⟩,hb⟩
theorem md_new {W':World} {r:Rec} (hM:Hid (kV.M W' W.heap.size (fun _=>True) r.x r.cells∧CT 3 r.x)) (h9: ∀p,s9=some p→p<W.heap.size) (h10: ∀q,s10=some q→q<W.heap.size):Md W' s9 s10 r:=
 ⟨hM.out.2,W.heap.size,_,Kd.M_bound _ hM.out.1,fun k hk=>⟨hk.2.2.1,fun p e=>by have:=h9 p e;have:=hk.2.1;omega,fun q e=>by have:=h10 q e;have:=hk.2.1;omega⟩⟩
theorem Amid.cl (h:Amid w X1 X2 W s9 s10 r1 r2) {W':World} (hb:Below W.heap.size W W'):Amid w X1 X2 W' s9 s10 r1 r2:=
 ⟨h.low.trans (hb.mono h.low.size),blk_below h.b1 hb,blk_below h.b2 hb,fun p e=>⟨blk_below (h.x9 p e).1 hb,(h.x9 p e).2⟩,fun p e=>⟨blk_below (h.x10 p e).1 hb,(h.x10 p e).2⟩,h.ne,fun r e=>(h.m1 r e).below hb,fun r e=>(h.m2 r e).below hb⟩
theorem Amid.c1 (h:Amid w X1 X2 W s9 s10 none r2) {W':World} {r:Rec} (hM:Hid (kV.M W' W.heap.size (fun _=>True) r.x r.cells∧CT 3 r.x)) (hb:Below W.heap.size W W'):Amid w X1 X2 W' s9 s10 (some r) r2:=
 {h.cl hb with m1:=fun r' e=>by cases e;exact md_new hM (fun p e=>lt_blk (h.x9 p e).1) (fun p e=>lt_blk (h.x10 p e).1)}
theorem Amid.c2 (h:Amid w X1 X2 W s9 s10 r1 none) {W':World} {r:Rec} (hM:Hid (kV.M W' W.heap.size (fun _=>True) r.x r.cells∧CT 3 r.x)) (hb:Below W.heap.size W W'):Amid w X1 X2 W' s9 s10 r1 (some r):=
 {h.cl hb with m2:=fun r' e=>by cases e;exact md_new hM (fun p e=>lt_blk (h.x9 p e).1) (fun p e=>lt_blk (h.x10 p e).1)}
end
theorem low6 {B:Nat} {w W:World} (h:Below B w W) (g:Nat) (hg:B≤g) (a b c d e f:Value):Below B w ((((((W.setCell ⟨g,0,none⟩ a).setCell ⟨g,1,none⟩ b).setCell ⟨g,2,none⟩ c).setCell ⟨g,3,none⟩ d).setCell ⟨g,4,none⟩ e).setCell ⟨g,5,none⟩ f):=
 (((((h.setCell (p:=⟨g,0,none⟩) hg a).setCell (p:=⟨g,1,none⟩) hg b).setCell (p:=⟨g,2,none⟩) hg c).setCell (p:=⟨g,3,none⟩) hg d).setCell (p:=⟨g,4,none⟩) hg e).setCell (p:=⟨g,5,none⟩) hg f
structure AmidT (w:World) (X1 X2:Array Value) (W:World) (p q:Nat) (r1 r2:Rec):Prop where
 low:Below w.heap.size w W
 b1:W.heap[p]?=some (.cells r1.row 26 (0,0))
 x10:Six W q
 hq:w.heap.size+1<q
 bx:W.heap[w.heap.size]?=some (.cells X1 26 (0,0))∧W.heap[w.heap.size+1]?=some (.cells X2 26 (0,0))
 ne:p≠q
 m1:Md W (some p) (some q) r1
 m2:Md W (some p) (some q) r2
theorem set6_six {W:World} {p:Nat} (h:Six W p) (r:Rec):((((((W.setCell ⟨p,0,none⟩ (.int .i64 r.x.f0)).setCell ⟨p,1,none⟩ (.bool r.x.f1)).setCell ⟨p,2,none⟩ (.slice r.P2 r.x.f2.length r.p2)).setCell ⟨p,3,none⟩ (.int .u64 r.x.f3)).setCell ⟨p,4,none⟩ (.string r.x.f4)).setCell ⟨p,5,none⟩ (.slice r.P5 r.x.f5.length r.p5)).heap[p]?=some (.cells r.row 26 (0,0)):=
 blk_put (blk_put (blk_put (blk_put (blk_put (blk_put h 0 _ rfl) 1 _ rfl) 2 _ rfl) 3 _ rfl) 4 _ rfl) 5 _ rfl
theorem set6_far (W:World) (p:Nat) (r:Rec) (k:Nat) (h:k≠p):((((((W.setCell ⟨p,0,none⟩ (.int .i64 r.x.f0)).setCell ⟨p,1,none⟩ (.bool r.x.f1)).setCell ⟨p,2,none⟩ (.slice r.P2 r.x.f2.length r.p2)).setCell ⟨p,3,none⟩ (.int .u64 r.x.f3)).setCell ⟨p,4,none⟩ (.string r.x.f4)).setCell ⟨p,5,none⟩ (.slice r.P5 r.x.f5.length r.p5)).heap[k]?=W.heap[k]?:=by
 rw[heap_far _ ⟨p,5,none⟩ _ k h,heap_far _ ⟨p,4,none⟩ _ k h,heap_far _ ⟨p,3,none⟩ _ k h,heap_far _ ⟨p,2,none⟩ _ k h,heap_far _ ⟨p,1,none⟩ _ k h,heap_far _ ⟨p,0,none⟩ _ k h]
theorem Amid.st9 {w W:World} {X1 X2:Array Value} {p q:Nat} {r1 r2:Rec} (h:Amid w X1 X2 W (some p) (some q) (some r1) (some r2)): ∃V,V=((((((W.setCell ⟨p,0,none⟩ (.int .i64 r1.x.f0)).setCell ⟨p,1,none⟩ (.bool r1.x.f1)).setCell ⟨p,2,none⟩ (.slice r1.P2 r1.x.f2.length r1.p2)).setCell ⟨p,3,none⟩ (.int .u64 r1.x.f3)).setCell ⟨p,4,none⟩ (.string r1.x.f4)).setCell ⟨p,5,none⟩ (.slice r1.P5 r1.x.f5.length r1.p5))∧AmidT w X1 X2 V p q r1 r2:=by
 obtain⟨hx,hp⟩:=h.x9 p rfl
 obtain⟨hy,hq⟩:=h.x10 q rfl
 have hne:=h.ne p q rfl rfl
 refine⟨_,rfl,low6 h.low p (by omega) _ _ _ _ _ _,set6_six hx r1,(set6_far W p r1 q (fun e=>hne e.symm)).trans hy,hq,⟨(set6_far W p r1 _ (by omega)).trans h.b1,(set6_far W p r1 _ (by omega)).trans h.b2⟩,hne,?_,?_⟩
 ·exact((((((h.m1 r1 rfl).set (Or.inl rfl) 0 _).set (Or.inl rfl) 1 _).set (Or.inl rfl) 2 _).set (Or.inl rfl) 3 _).set (Or.inl rfl) 4 _).set (Or.inl rfl) 5 _
 ·exact((((((h.m2 r2 rfl).set (Or.inl rfl) 0 _).set (Or.inl rfl) 1 _).set (Or.inl rfl) 2 _).set (Or.inl rfl) 3 _).set (Or.inl rfl) 4 _).set (Or.inl rfl) 5 _
structure Two2 (w:World) (p q:Nat) (r1 r2:Rec) (W:World):Prop where
 low:Below w.heap.size w W
 b1:W.heap[p]?=some (.cells r1.row 26 (0,0))
 b2:W.heap[q]?=some (.cells r2.row 26 (0,0))
 v1:VR W (.agg r1.row) r1.x
 v2:VR W (.agg r2.row) r2.x
 c1:CT 3 r1.x
 c2:CT 3 r2.x
theorem AmidT.st10 {w W:World} {X1 X2:Array Value} {p q:Nat} {r1 r2:Rec} (h:AmidT w X1 X2 W p q r1 r2): ∃V,V=((((((W.setCell ⟨q,0,none⟩ (.int .i64 r2.x.f0)).setCell ⟨q,1,none⟩ (.bool r2.x.f1)).setCell ⟨q,2,none⟩ (.slice r2.P2 r2.x.f2.length r2.p2)).setCell ⟨q,3,none⟩ (.int .u64 r2.x.f3)).setCell ⟨q,4,none⟩ (.string r2.x.f4)).setCell ⟨q,5,none⟩ (.slice r2.P5 r2.x.f5.length r2.p5))∧Two2 w p q r1 r2 V∧(V.heap[w.heap.size]?=some (.cells X1 26 (0,0))∧V.heap[w.heap.size+1]?=some (.cells X2 26 (0,0))):=by
 have hq:=h.hq
 refine⟨_,rfl,⟨low6 h.low q (by omega) _ _ _ _ _ _,(set6_far W q r2 p h.ne).trans h.b1,set6_six h.x10 r2,?_,?_,h.m1.1,h.m2.1⟩,(set6_far W q r2 _ (by omega)).trans h.bx.1,(set6_far W q r2 _ (by omega)).trans h.bx.2⟩
 ·exact(((((((h.m1).set (Or.inr rfl) 0 _).set (Or.inr rfl) 1 _).set (Or.inr rfl) 2 _).set (Or.inr rfl) 3 _).set (Or.inr rfl) 4 _).set (Or.inr rfl) 5 _).vr
 ·exact(((((((h.m2).set (Or.inr rfl) 0 _).set (Or.inr rfl) 1 _).set (Or.inr rfl) 2 _).set (Or.inr rfl) 3 _).set (Or.inr rfl) 4 _).set (Or.inr rfl) 5 _).vr
theorem opK_ok (op:Int):KOk (wrap64 ((wrap64 (op.tmod 6+6)).tmod 6+13)):=by
 have h1:=Int.tmod_lt_of_pos op (show(0:Int)<6 by decide)
 have h2:=Int.lt_tmod_of_pos op (show(0:Int)<6 by decide)
 have e1:wrap64 (op.tmod 6+6)=op.tmod 6+6:=by unfold wrap64;omega
 rw[e1]
 have h3:=Int.tmod_lt_of_pos (op.tmod 6+6) (show(0:Int)<6 by decide)
 have h4:0≤(op.tmod 6+6).tmod 6:=Int.tmod_nonneg 6 (by omega)
 have e2:wrap64 ((op.tmod 6+6).tmod 6+13)=(op.tmod 6+6).tmod 6+13:=by unfold wrap64;omega
 rw[e2]
 unfold KOk
 omega
theorem depK (dp:Int):10≤wrap64 (10+(wrap64 (dp.tmod 50+50)).tmod 50)∧wrap64 (10+(wrap64 (dp.tmod 50+50)).tmod 50)≤1000:=by
 have h1:=Int.tmod_lt_of_pos dp (show(0:Int)<50 by decide)
 have h2:=Int.lt_tmod_of_pos dp (show(0:Int)<50 by decide)
 have e1:wrap64 (dp.tmod 50+50)=dp.tmod 50+50:=by unfold wrap64;omega
 rw[e1]
 have h3:=Int.tmod_lt_of_pos (dp.tmod 50+50) (show(0:Int)<50 by decide)
 have h4:0≤(dp.tmod 50+50).tmod 50:=Int.tmod_nonneg 50 (by omega)
 have e2:wrap64 (10+(dp.tmod 50+50).tmod 50)=10+(dp.tmod 50+50).tmod 50:=by unfold wrap64;omega
 rw[e2]
 omega
set_option maxRecDepth 100000 in
set_option maxHeartbeats 4000000 in
theorem lawCompareDepth_c (op dp:Int) (x y:VT) (A2:Option Addr) (c2:Nat) (A5:Option Addr) (n5 c5:Nat) (B2:Option Addr) (d2:Nat) (B5:Option Addr) (m5 d5:Nat) (w:World) (h1:RawN 3 w x A2 c2 A5 n5 c5) (h2:RawN 3 w y B2 d2 B5 m5 d5) (hT:Thr w) (hL:Lim w):
 Calls Tryz.prog 4 #[.int .i64 op, .agg (six5 x A2 c2 A5 n5 c5), .agg (six5 y B2 d2 B5 m5 d5), .int .i64 dp] w fun e w'=>e= .returned (.bool true)∧Below w.heap.size w w':=by
 obtain⟨W0,hW0⟩: ∃W,W=(w.alloc (.cells (six5 x A2 c2 A5 n5 c5) 26)).alloc (.cells (six5 y B2 d2 B5 m5 d5) 26):=⟨_,rfl⟩
 obtain⟨hb0,k1,k2⟩:=two_new w (six5 x A2 c2 A5 n5 c5) (six5 y B2 d2 B5 m5 d5)
 rw[←hW0] at hb0 k1 k2
 have HC1:Hid (∀W,Below w.heap.size w W→Calls Tryz.prog 9 #[.agg (six5 x A2 c2 A5 n5 c5), .int .i64 3] W (ClR W)):=Lib.hid fun W hW=>(cleanTree_c 3 (by omega) x A2 c2 A5 n5 c5 W (h1.below hW)).mono fun e w' h=>clR_of h
 have HC2:Hid (∀W,Below w.heap.size w W→Calls Tryz.prog 9 #[.agg (six5 y B2 d2 B5 m5 d5), .int .i64 3] W (ClR W)):=Lib.hid fun W hW=>(cleanTree_c 3 (by omega) y B2 d2 B5 m5 d5 W (h2.below hW)).mono fun e w' h=>clR_of h
 have HTL:Hid (∀W,Below w.heap.size w W→Thr W∧Lim W):=Lib.hid fun W hW=>⟨hT.below hW,hL.below hW⟩
 have HB:=Lib.hid hb0
 have HK1:=Lib.hid k1
 have HK2:=Lib.hid k2
 obtain⟨z0,z1,z2,z3,z4,z5⟩:=cells6 k1
 obtain⟨v0,v1,v2,v3,v4,v5⟩:=cells6 k2
 clear h1 h2 hT hL hb0 k1 k2
 go_enter Tryz.func4,Tryz.ntmps4
 go_wp2_with fail
 rw[←hW0]
 clear hW0
 go_upto_region 3 with(go_at_call 8;(with_reducible refine(fitsV_c _ _ _ _ _ _ _ _ _ _ _).mono ?_);rintro e w1 ⟨⟨r,rfl⟩,hb1⟩;replace HK1:=Lib.hid (blk_below HK1.out hb1);replace HK2:=Lib.hid (blk_below HK2.out hb1);replace HB:=Lib.hid (HB.out.trans (hb1.mono HB.out.size));clear hb1 z0 z1 z2 z3 z4 z5 v0 v1 v2 v3 v4 v5;obtain⟨z0,z1,z2,z3,z4,z5⟩:=cells6 HK1.out;obtain⟨v0,v1,v2,v3,v4,v5⟩:=cells6 HK2.out;cases r)
 all_goals first|(go_ret;exact⟨rfl,HB.out⟩)|skip
 go_cut [0] (fun a wx=> ∃k,a= .int .i64 k∧KOk k∧wx=w1)
 case first=>
  have hok:=opK_ok op
  go_wp2
  go_meet
  exact⟨_,rfl,hok,rfl⟩
 case rest=>
  obtain⟨k,rfl,hk,rfl⟩:=hcut
  obtain⟨wo,rfl⟩: ∃wo:World,wo=wc:=⟨_,rfl⟩
  go_upto_region 4 with fail
  have zl:w.heap.size<wo.heap.size:=lt_of_cell z0
  have vl0:w.heap.size+1<wo.heap.size:=lt_of_cell v0
  go_cut [9,10] (fun a b wx=> ∃p q r1 r2,a= .pointer (some ⟨p,0,none⟩)∧b= .pointer (some ⟨q,0,none⟩)∧Hid (Two2 w p q r1 r2 wx))
  case first=>
   refine wp_region_held_drew (S:=fun V=>V.heap[w.heap.size]?=some (.cells (six5 x A2 c2 A5 n5 c5) 26 (0,0))∧V.heap[w.heap.size+1]?=some (.cells (six5 y B2 d2 B5 m5 d5) 26 (0,0))) (by kernel_rfl) ⟨HK1.out,HK2.out⟩ (fun _=>?_)
   obtain⟨V,hV⟩: ∃V,V=wo.drew:=⟨_,rfl⟩
   have HS:Hid (Amid w (six5 x A2 c2 A5 n5 c5) (six5 y B2 d2 B5 m5 d5) V none none none none):=by rw[hV];exact Lib.hid ⟨HB.out.drew,HK1.out,HK2.out,(fun _ e=>by cases e),(fun _ e=>by cases e),(fun _ _ e=>by cases e),(fun _ e=>by cases e),(fun _ e=>by cases e)⟩
   have hbx:=HS.out.box
   rw[←hV]
   clear hV HB HK1 HK2 z0 z1 z2 z3 z4 z5 v0 v1 v2 v3 v4 v5
   refine wpAnyH_take (i:=0) (oi:=_) (v:=?_) rfl (by kernel_rfl) (by kernel_rfl) (by kernel_rfl) (fun _ _ _ h=>h) (Or.inl ⟨by rfl,?_⟩) (by assumption) ?_;rotate_left 1;·(intro V hSw;obtain⟨z0,z1,z2,z3,z4,z5⟩:=cells6 hSw.1;clear hSw;go_simp;first|done|with_reducible rfl)
   (try simp only[Act.put,List.setIfInBounds_toArray,List.set_cons_zero,List.set_cons_succ,List.getElem_toArray,List.getElem_cons_zero,List.getElem_cons_succ])
   refine wpAnyH_take (i:=2) (oi:=_) (v:=?_) rfl (by kernel_rfl) (by kernel_rfl) (by kernel_rfl) (fun _ _ _ h=>h) (Or.inl ⟨by rfl,?_⟩) (by assumption) ?_;rotate_left 1;·(intro V hSw;obtain⟨z0,z1,z2,z3,z4,z5⟩:=cells6 hSw.2;clear hSw;go_simp;first|done|with_reducible rfl)
   (try simp only[Act.put,List.setIfInBounds_toArray,List.set_cons_zero,List.set_cons_succ,List.getElem_toArray,List.getElem_cons_zero,List.getElem_cons_succ])
   clear hbx
   repeat' first
    |(refine wpAnyH_ready (rs:=[1,4,5]) (by decide+kernel) (by simp) (AllReadyH.cons (o:=_) rfl (fun K hK=>?_) (AllReadyH.cons (o:=_) rfl (fun K hK=>?_) (AllReadyH.cons (o:=_) rfl (fun K hK=>?_) AllReadyH.nil)));(go_simp;go_at_call 9;(with_reducible refine(HC1.out _ HS.out.low).mono ?_);rintro e V2 ⟨r1,rfl,hM,hb⟩;have h:=HS.out.c1 hM hb;clear hM hb;refine hK.out _ _ h.box (fun _=>?_);clear hK K;replace HS:=Lib.hid h;clear h;(try simp only[Act.put,List.setIfInBounds_toArray,List.set_cons_zero,List.set_cons_succ,List.getElem_toArray,List.getElem_cons_zero,List.getElem_cons_succ]));rotate_left 1;(go_simp;obtain⟨V2,hV2,h⟩:=HS.out.al9;rw[←hV2];clear hV2;refine hK.out _ _ h.box (fun _=>?_);clear hK K;replace HS:=Lib.hid h;clear h;(try simp only[Act.put,List.setIfInBounds_toArray,List.set_cons_zero,List.set_cons_succ,List.getElem_toArray,List.getElem_cons_zero,List.getElem_cons_succ]));rotate_left 1;(go_simp;obtain⟨V2,hV2,h⟩:=HS.out.al10;rw[←hV2];clear hV2;refine hK.out _ _ h.box (fun _=>?_);clear hK K;replace HS:=Lib.hid h;clear h;(try simp only[Act.put,List.setIfInBounds_toArray,List.set_cons_zero,List.set_cons_succ,List.getElem_toArray,List.getElem_cons_zero,List.getElem_cons_succ])))
    |(refine wpAnyH_ready (rs:=[1,5]) (by decide+kernel) (by simp) (AllReadyH.cons (o:=_) rfl (fun K hK=>?_) (AllReadyH.cons (o:=_) rfl (fun K hK=>?_) AllReadyH.nil));(go_simp;go_at_call 9;(with_reducible refine(HC1.out _ HS.out.low).mono ?_);rintro e V2 ⟨r1,rfl,hM,hb⟩;have h:=HS.out.c1 hM hb;clear hM hb;refine hK.out _ _ h.box (fun _=>?_);clear hK K;replace HS:=Lib.hid h;clear h;(try simp only[Act.put,List.setIfInBounds_toArray,List.set_cons_zero,List.set_cons_succ,List.getElem_toArray,List.getElem_cons_zero,List.getElem_cons_succ]));rotate_left 1;(go_simp;obtain⟨V2,hV2,h⟩:=HS.out.al10;rw[←hV2];clear hV2;refine hK.out _ _ h.box (fun _=>?_);clear hK K;replace HS:=Lib.hid h;clear h;(try simp only[Act.put,List.setIfInBounds_toArray,List.set_cons_zero,List.set_cons_succ,List.getElem_toArray,List.getElem_cons_zero,List.getElem_cons_succ])))
    |(refine wpAnyH_ready (rs:=[1,4]) (by decide+kernel) (by simp) (AllReadyH.cons (o:=_) rfl (fun K hK=>?_) (AllReadyH.cons (o:=_) rfl (fun K hK=>?_) AllReadyH.nil));(go_simp;go_at_call 9;(with_reducible refine(HC1.out _ HS.out.low).mono ?_);rintro e V2 ⟨r1,rfl,hM,hb⟩;have h:=HS.out.c1 hM hb;clear hM hb;refine hK.out _ _ h.box (fun _=>?_);clear hK K;replace HS:=Lib.hid h;clear h;(try simp only[Act.put,List.setIfInBounds_toArray,List.set_cons_zero,List.set_cons_succ,List.getElem_toArray,List.getElem_cons_zero,List.getElem_cons_succ]));rotate_left 1;(go_simp;obtain⟨V2,hV2,h⟩:=HS.out.al9;rw[←hV2];clear hV2;refine hK.out _ _ h.box (fun _=>?_);clear hK K;replace HS:=Lib.hid h;clear h;(try simp only[Act.put,List.setIfInBounds_toArray,List.set_cons_zero,List.set_cons_succ,List.getElem_toArray,List.getElem_cons_zero,List.getElem_cons_succ])))
    |(refine wpAnyH_ready (rs:=[1]) (by decide+kernel) (by simp) (AllReadyH.cons (o:=_) rfl (fun K hK=>?_) AllReadyH.nil);(go_simp;go_at_call 9;(with_reducible refine(HC1.out _ HS.out.low).mono ?_);rintro e V2 ⟨r1,rfl,hM,hb⟩;have h:=HS.out.c1 hM hb;clear hM hb;refine hK.out _ _ h.box (fun _=>?_);clear hK K;replace HS:=Lib.hid h;clear h;(try simp only[Act.put,List.setIfInBounds_toArray,List.set_cons_zero,List.set_cons_succ,List.getElem_toArray,List.getElem_cons_zero,List.getElem_cons_succ])))
    |(refine wpAnyH_ready (rs:=[3,4,5]) (by decide+kernel) (by simp) (AllReadyH.cons (o:=_) rfl (fun K hK=>?_) (AllReadyH.cons (o:=_) rfl (fun K hK=>?_) (AllReadyH.cons (o:=_) rfl (fun K hK=>?_) AllReadyH.nil)));(go_simp;go_at_call 9;(with_reducible refine(HC2.out _ HS.out.low).mono ?_);rintro e V2 ⟨r2,rfl,hM,hb⟩;have h:=HS.out.c2 hM hb;clear hM hb;refine hK.out _ _ h.box (fun _=>?_);clear hK K;replace HS:=Lib.hid h;clear h;(try simp only[Act.put,List.setIfInBounds_toArray,List.set_cons_zero,List.set_cons_succ,List.getElem_toArray,List.getElem_cons_zero,List.getElem_cons_succ]));rotate_left 1;(go_simp;obtain⟨V2,hV2,h⟩:=HS.out.al9;rw[←hV2];clear hV2;refine hK.out _ _ h.box (fun _=>?_);clear hK K;replace HS:=Lib.hid h;clear h;(try simp only[Act.put,List.setIfInBounds_toArray,List.set_cons_zero,List.set_cons_succ,List.getElem_toArray,List.getElem_cons_zero,List.getElem_cons_succ]));rotate_left 1;(go_simp;obtain⟨V2,hV2,h⟩:=HS.out.al10;rw[←hV2];clear hV2;refine hK.out _ _ h.box (fun _=>?_);clear hK K;replace HS:=Lib.hid h;clear h;(try simp only[Act.put,List.setIfInBounds_toArray,List.set_cons_zero,List.set_cons_succ,List.getElem_toArray,List.getElem_cons_zero,List.getElem_cons_succ])))
    |(refine wpAnyH_ready (rs:=[3,5]) (by decide+kernel) (by simp) (AllReadyH.cons (o:=_) rfl (fun K hK=>?_) (AllReadyH.cons (o:=_) rfl (fun K hK=>?_) AllReadyH.nil));(go_simp;go_at_call 9;(with_reducible refine(HC2.out _ HS.out.low).mono ?_);rintro e V2 ⟨r2,rfl,hM,hb⟩;have h:=HS.out.c2 hM hb;clear hM hb;refine hK.out _ _ h.box (fun _=>?_);clear hK K;replace HS:=Lib.hid h;clear h;(try simp only[Act.put,List.setIfInBounds_toArray,List.set_cons_zero,List.set_cons_succ,List.getElem_toArray,List.getElem_cons_zero,List.getElem_cons_succ]));rotate_left 1;(go_simp;obtain⟨V2,hV2,h⟩:=HS.out.al10;rw[←hV2];clear hV2;refine hK.out _ _ h.box (fun _=>?_);clear hK K;replace HS:=Lib.hid h;clear h;(try simp only[Act.put,List.setIfInBounds_toArray,List.set_cons_zero,List.set_cons_succ,List.getElem_toArray,List.getElem_cons_zero,List.getElem_cons_succ])))
    |(refine wpAnyH_ready (rs:=[3,4]) (by decide+kernel) (by simp) (AllReadyH.cons (o:=_) rfl (fun K hK=>?_) (AllReadyH.cons (o:=_) rfl (fun K hK=>?_) AllReadyH.nil));(go_simp;go_at_call 9;(with_reducible refine(HC2.out _ HS.out.low).mono ?_);rintro e V2 ⟨r2,rfl,hM,hb⟩;have h:=HS.out.c2 hM hb;clear hM hb;refine hK.out _ _ h.box (fun _=>?_);clear hK K;replace HS:=Lib.hid h;clear h;(try simp only[Act.put,List.setIfInBounds_toArray,List.set_cons_zero,List.set_cons_succ,List.getElem_toArray,List.getElem_cons_zero,List.getElem_cons_succ]));rotate_left 1;(go_simp;obtain⟨V2,hV2,h⟩:=HS.out.al9;rw[←hV2];clear hV2;refine hK.out _ _ h.box (fun _=>?_);clear hK K;replace HS:=Lib.hid h;clear h;(try simp only[Act.put,List.setIfInBounds_toArray,List.set_cons_zero,List.set_cons_succ,List.getElem_toArray,List.getElem_cons_zero,List.getElem_cons_succ])))
    |(refine wpAnyH_ready (rs:=[3]) (by decide+kernel) (by simp) (AllReadyH.cons (o:=_) rfl (fun K hK=>?_) AllReadyH.nil);(go_simp;go_at_call 9;(with_reducible refine(HC2.out _ HS.out.low).mono ?_);rintro e V2 ⟨r2,rfl,hM,hb⟩;have h:=HS.out.c2 hM hb;clear hM hb;refine hK.out _ _ h.box (fun _=>?_);clear hK K;replace HS:=Lib.hid h;clear h;(try simp only[Act.put,List.setIfInBounds_toArray,List.set_cons_zero,List.set_cons_succ,List.getElem_toArray,List.getElem_cons_zero,List.getElem_cons_succ])))
    |(refine wpAnyH_ready (rs:=[4,5]) (by decide+kernel) (by simp) (AllReadyH.cons (o:=_) rfl (fun K hK=>?_) (AllReadyH.cons (o:=_) rfl (fun K hK=>?_) AllReadyH.nil));(go_simp;obtain⟨V2,hV2,h⟩:=HS.out.al9;rw[←hV2];clear hV2;refine hK.out _ _ h.box (fun _=>?_);clear hK K;replace HS:=Lib.hid h;clear h;(try simp only[Act.put,List.setIfInBounds_toArray,List.set_cons_zero,List.set_cons_succ,List.getElem_toArray,List.getElem_cons_zero,List.getElem_cons_succ]));rotate_left 1;(go_simp;obtain⟨V2,hV2,h⟩:=HS.out.al10;rw[←hV2];clear hV2;refine hK.out _ _ h.box (fun _=>?_);clear hK K;replace HS:=Lib.hid h;clear h;(try simp only[Act.put,List.setIfInBounds_toArray,List.set_cons_zero,List.set_cons_succ,List.getElem_toArray,List.getElem_cons_zero,List.getElem_cons_succ])))
    |(refine wpAnyH_ready (rs:=[5]) (by decide+kernel) (by simp) (AllReadyH.cons (o:=_) rfl (fun K hK=>?_) AllReadyH.nil);(go_simp;obtain⟨V2,hV2,h⟩:=HS.out.al10;rw[←hV2];clear hV2;refine hK.out _ _ h.box (fun _=>?_);clear hK K;replace HS:=Lib.hid h;clear h;(try simp only[Act.put,List.setIfInBounds_toArray,List.set_cons_zero,List.set_cons_succ,List.getElem_toArray,List.getElem_cons_zero,List.getElem_cons_succ])))
    |(refine wpAnyH_ready (rs:=[4]) (by decide+kernel) (by simp) (AllReadyH.cons (o:=_) rfl (fun K hK=>?_) AllReadyH.nil);(go_simp;obtain⟨V2,hV2,h⟩:=HS.out.al9;rw[←hV2];clear hV2;refine hK.out _ _ h.box (fun _=>?_);clear hK K;replace HS:=Lib.hid h;clear h;(try simp only[Act.put,List.setIfInBounds_toArray,List.set_cons_zero,List.set_cons_succ,List.getElem_toArray,List.getElem_cons_zero,List.getElem_cons_succ])))
    |(refine wpAnyH_ready (rs:=[6]) (by decide+kernel) (by simp) (AllReadyH.cons (o:=_) rfl (fun K hK=>?_) AllReadyH.nil);obtain⟨⟨s0,s1,s2,s3,s4,s5⟩,sf⟩:=(HS.out.x9 _ rfl).1.at;go_simp;obtain⟨V2,hV2,h⟩:=HS.out.st9;rw[←hV2];clear hV2 s0 s1 s2 s3 s4 s5 sf;refine hK.out _ _ h.bx (fun _=>?_);clear hK K;(try simp only[Act.put,List.setIfInBounds_toArray,List.set_cons_zero,List.set_cons_succ,List.getElem_toArray,List.getElem_cons_zero,List.getElem_cons_succ]);have HT:=Lib.hid h;clear h HS)
    |(refine wpAnyH_ready (rs:=[7]) (by decide+kernel) (by simp) (AllReadyH.cons (o:=_) rfl (fun K hK=>?_) AllReadyH.nil);obtain⟨⟨s0,s1,s2,s3,s4,s5⟩,sf⟩:=HT.out.x10.at;go_simp;obtain⟨V2,hV2,h,hbx⟩:=HT.out.st10;rw[←hV2];clear hV2 s0 s1 s2 s3 s4 s5 sf;refine hK.out _ _ hbx (fun _=>?_);clear hK K;(try simp only[Act.put,List.setIfInBounds_toArray,List.set_cons_zero,List.set_cons_succ,List.getElem_toArray,List.getElem_cons_zero,List.getElem_cons_succ]);refine wpAnyH_done (by kernel_rfl) ?_ _;(go_wp2_with fail;go_meet;exact⟨_,_,_,_,rfl,rfl,Lib.hid h⟩))
  case rest=>
   obtain⟨p,q,⟨y1,P2,p2,P5,p5⟩,⟨y2,Q2,q2,Q5,q5⟩,rfl,rfl,H2⟩:=hcut
   have hdp:=depK dp
   obtain⟨o,ho⟩: ∃o,cmpV 4 k y1 y2=o:=⟨_,rfl⟩
   have HI:Hid (∀d,10≤d→d≤1000→Calls Tryz.prog 12 #[.int .i64 k, .agg (six5 y1 P2 p2 P5 y1.f5.length p5), .agg (six5 y2 Q2 q2 Q5 y2.f5.length q5), .int .i64 d] wc fun e w'=>ICR o e∧Below wc.heap.size wc w'):=Lib.hid fun d hd1 hd2=>by
    have:=implCompareDepth_c 3 (by omega) k d hk ((cdTree_c 3 (by omega)).mono (by omega)) hd2 _ _ y1 y2 wc H2.out.v1 H2.out.v2 H2.out.c1 H2.out.c2 (HTL.out _ H2.out.low).1 (HTL.out _ H2.out.low).2
    rw[ho] at this
    exact this
   have HS:Hid (∀W,Below wc.heap.size wc W→Calls Tryz.prog 13 #[.int .i64 k, .agg (six5 y1 P2 p2 P5 y1.f5.length p5), .agg (six5 y2 Q2 q2 Q5 y2.f5.length q5)] W fun e W'=>SCR o e∧Below W.heap.size W W'):=Lib.hid fun W hW=>by
    have:=treeCmp_c k hk 3 (by omega) y1 y2 _ _ W (H2.out.v1.below hW) (H2.out.v2.below hW) H2.out.c1 H2.out.c2
    rw[ho] at this
    exact this
   clear ho HC1 HC2 HK1 HK2 z0 z1 z2 z3 z4 z5 v0 v1 v2 v3 v4 v5
   obtain⟨z0,z1,z2,z3,z4,z5⟩:=cells6 H2.out.b1
   obtain⟨v0,v1,v2,v3,v4,v5⟩:=cells6 H2.out.b2
   rcases o with _|b
   rotate_left
   cases b
   all_goals
    go_wp2_with (first
     |(go_at_call 12;(with_reducible refine(HI.out _ hdp.1 hdp.2).mono ?_);rintro e w4 ⟨he,hb4⟩;cases he;have HB4:=Lib.hid hb4;clear hb4 z0 z1 z2 z3 z4 z5 v0 v1 v2 v3 v4 v5;obtain⟨z0,z1,z2,z3,z4,z5⟩:=cells6 (blk_below H2.out.b1 HB4.out);obtain⟨v0,v1,v2,v3,v4,v5⟩:=cells6 (blk_below H2.out.b2 HB4.out))
     |(go_at_call 13;(with_reducible refine(HS.out _ HB4.out).mono ?_);rintro e w5 ⟨he,hb5⟩;cases he;have HB5:=Lib.hid (HB4.out.trans (hb5.mono HB4.out.size));clear hb5))
    go_ret
    exact⟨rfl,H2.out.low.trans (HB5.out.mono H2.out.low.size)⟩
end Go.Proofs.YtkplnbjgkhmbcaaGreatDoor
