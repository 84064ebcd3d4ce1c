/- EqC -/
import Derived.Test.YtkplnbjgkhmbcaaGreatDoorU17
import Derived.LaidEqlPtr
namespace Go.Proofs.YtkplnbjgkhmbcaaGreatDoor
open Go.RowKit Go.Shelf Go.Proofs.YtkplnbjgkhmbcaaGreatDoorW.PrintWords Go.Proofs.YtkplnbjgkhmbcaaGreatDoorW.PrintLast Go.Proofs.YtkplnbjgkhmbcaaGreatDoorW.PrintMore Go.Proofs.YtkplnbjgkhmbcaaGreatDoor.PFnCompare Go.Proofs.YtkplnbjgkhmbcaaGreatDoor.PCmp Go.Proofs.YtkplnbjgkhmbcaaGreatDoor.PbytesOf
set_option linter.unusedVariables false
set_option linter.unusedSimpArgs false
theorem ptr_eqSame (a:Addr) (w:World):(binOp .eql 118 (.pointer (some a)) (.pointer (some a))).run Tryz.prog w= .ok (.bool true) w:=by
 obtain⟨i,hi,_⟩:=Option.map_eq_some_iff.1 intInfo
 exact run_eql_ptr_same w a Tryz.underlying118 hi
theorem intCmpSame_c (g:Nat) (w:World):Calls Tryz.prog 104 #[.pointer (some ⟨g,0,none⟩), .pointer (some ⟨g,0,none⟩)] w fun e w'=>e= .returned (.int .i64 0)∧w'=w:=by
 have hp:=ptr_eqSame ⟨g,0,none⟩
 go_enter Tryz.func104,Tryz.ntmps104
 go_wp2
 go_ret
 exact⟨rfl,rfl⟩
theorem bigIntPtr_c (g:Nat) (w:World):Calls Tryz.prog 327 #[.agg #[.int .i64 0, .pointer (some ⟨g,0,none⟩)]] w fun e w'=>e= .returned (.pointer (some ⟨g,0,none⟩))∧Below w.heap.size w w':=by
 go_enter Tryz.func327,Tryz.ntmps327
 go_wp2_with (go_at_call 98;(with_reducible refine(get_c _ _ _).mono ?_);rintro e w1 ⟨rfl,hb1⟩;have HB:=Lib.hid (((Below.refl _ w).alloc (Nat.le_refl _) _).trans (hb1.mono (by simp)));clear hb1)
 go_ret
 exact⟨rfl,HB.out⟩
set_option maxRecDepth 100000 in
set_option maxHeartbeats 1000000 in
theorem icmpSame_c (g:Nat) (d:Int) (w:World):Calls Tryz.prog 321 #[.agg #[.int .i64 0, .pointer (some ⟨g,0,none⟩)], .iface 122 (.agg #[.int .i64 0, .pointer (some ⟨g,0,none⟩)]), .int .i64 d] w fun e w'=>e= .returned (.tuple #[.int .i64 0, .nilIface])∧Below w.heap.size w w':=by
 have hta:=assertInt1
 have HS:Hid (IC w w.heap.size (w.heap.size+1) 0 0 (some ⟨g,0,none⟩) (some ⟨g,0,none⟩) ((w.alloc (.cells #[.int .i64 0, .pointer (some ⟨g,0,none⟩)] 122)).alloc (.cells #[.int .i64 0, .pointer (some ⟨g,0,none⟩)] 122))):=Lib.hid
  ⟨blk_alloc (blk_new _ _) _,by simpa using blk_new (w.alloc _) _,((Below.refl _ w).alloc (Nat.le_refl _) _).alloc (by simp) _⟩
 obtain⟨W,hW⟩: ∃W,W=(w.alloc (.cells #[.int .i64 0, .pointer (some ⟨g,0,none⟩)] 122)).alloc (.cells #[.int .i64 0, .pointer (some ⟨g,0,none⟩)] 122):=⟨_,rfl⟩
 go_enter Tryz.func321,Tryz.ntmps321
 go_upto_region 2 with fail
 rw[←hW] at HS⊢
 clear hW
 obtain⟨c1,c2,c3,c4⟩:=HS.out.cells
 go_upto_region 5 with(go_at_call 98;(with_reducible refine(get_c _ _ _).mono ?_);rintro e w1 ⟨rfl,hb1⟩;(replace HS:=Lib.hid (HS.out.below hb1));clear hb1 c1 c2 c3 c4;obtain⟨c1,c2,c3,c4⟩:=HS.out.cells)
 go_region_with (first
  |(go_at_call 327;(with_reducible refine(bigIntPtr_c _ _).mono ?_);rintro e w1 ⟨rfl,hb1⟩;(replace HS:=Lib.hid (by first|exact HS.out.below hb1|exact HS.out.drew.below hb1));clear hb1 c1 c2 c3 c4;obtain⟨c1,c2,c3,c4⟩:=HS.out.cells)
  |(go_at_call 104;(with_reducible refine(intCmpSame_c g _).mono ?_);rintro e w2 ⟨rfl,rfl⟩;replace HS:=Lib.hid HS.out.low;clear c1 c2 c3 c4))
 all_goals go_wp2
 all_goals go_ret2
 all_goals exact⟨rfl,HS.out⟩
theorem cdIntSame_c (g:Nat) (B:Nat) (x:Int) (op d:Int) (w:World) (ho:OpOk op) (hd: ¬d<1) (hd2:d≤1000) (h:SIv B w (.agg #[.int .i64 0, .pointer (some ⟨g,0,none⟩)]) x):Calls Tryz.prog 29 #[.int .i8 op, .iface 122 (.agg #[.int .i64 0, .pointer (some ⟨g,0,none⟩)]), .iface 122 (.agg #[.int .i64 0, .pointer (some ⟨g,0,none⟩)]), .int .i64 d] w fun e w'=>e= .returned (.tuple #[.bool (tw op 0), .nilIface])∧Below w.heap.size w w':=by
 have h109:=as109Int
 have h113:=as113Int
 have hm:=methCmpInt
 have HS:Hid (Calls Tryz.prog 60 #[_,_] w fun e w'=>e= .returned (.bool true)∧Below w.heap.size w w'):=Lib.hid (sameType_c B B _ _ (Sca.int x) (Sca.int x) w ⟨_,rfl,h⟩ ⟨_,rfl,h⟩)
 have HT:=Lib.hid (fun w=>threewayG_c op 0 w ho)
 clear ho h
 go_enter Tryz.func29,Tryz.ntmps29
 go_wp2_with (first
  |(go_at_call 60;(with_reducible refine HS.out.mono ?_);rintro e w1 ⟨rfl,hb1⟩;have HB:=Lib.hid hb1;clear hb1)
  |(go_at_call 321;(with_reducible refine(icmpSame_c g _ _).mono ?_);rintro e w2 ⟨rfl,hb2⟩;replace HB:=Lib.hid (HB.out.trans (hb2.mono HB.out.size));clear hb2)
  |(go_at_call 61;(with_reducible refine(HT.out _).mono ?_);rintro e w2 ⟨rfl,rfl⟩))
 go_ret2
 exact⟨rfl,HB.out⟩
theorem sl_one {k:IntKind} {B B':Nat} {w:World} {v:Value} {l l':List Int} (h:Sl k B w v l) (h':Sl k B' w v l'):l=l':=by
 obtain⟨A,c,rfl,_,_,h3⟩:=h
 obtain⟨A',c',e,_,_,h3'⟩:=h'
 injection e with e1 e2 e3
 subst e1
 refine List.ext_getElem e2 fun i h1 h2=>?_
 have hne:l≠[]:=fun e=>by rw[e] at h1;simp at h1
 have hne':l'≠[]:=fun e=>by rw[e] at h2;simp at h2
 obtain⟨b,o,ea,_,_,hc⟩:=h3 hne
 obtain⟨b',o',ea',_,_,hc'⟩:=h3' hne'
 rw[ea] at ea'
 injection ea' with ea'
 injection ea' with eb eo
 subst eb eo
 have:=(hc i h1).symm.trans (hc' i h2)
 injection this with this
 injection this
theorem siv_one {B B':Nat} {w:World} {g:Nat} {x y:Int} (h:SIv B w (.agg #[.int .i64 0, .pointer (some ⟨g,0,none⟩)]) x) (h':SIv B' w (.agg #[.int .i64 0, .pointer (some ⟨g,0,none⟩)]) y):x=y:=by
 rcases h with⟨_,e⟩|⟨_,g1,n1,v1,zs1,e,_,h,hv,_⟩
 ·cases e
 ·rcases h' with⟨_,e'⟩|⟨_,g2,n2,v2,zs2,e',_,h',hv',_⟩
  ·cases e'
  ·cases e
   cases e'
   have hb:=h.blk.symm.trans h'.blk
   injection hb with hb
   injection hb with hb _ _
   have h0:some (Value.bool n1)=some (.bool n2):=congrArg (fun a:Array Value=>a[0]?) hb
   have h1:some v1=some v2:=congrArg (fun a:Array Value=>a[1]?) hb
   injection h0 with h0
   injection h0 with h0
   injection h1 with h1
   subst h0 h1
   rw[←hv,←hv',sl_one h.sl h'.sl]
theorem cdInt2_c (B1 B2:Nat) (u1 u2:Value) (x y:Int) (op d:Int) (w:World) (ho:OpOk op) (hd: ¬d<1) (hd2:d≤1000) (h1:SIv B1 w u1 x) (h2:SIv B2 w u2 y) (hx:x.natAbs<256^60) (hy:y.natAbs<256^60):
 Calls Tryz.prog 29 #[.int .i8 op, .iface 122 u1, .iface 122 u2, .int .i64 d] w fun e w'=>e= .returned (.tuple #[.bool (tw op (sgn (x-y))), .nilIface])∧Below w.heap.size w w':=by
 by_cases hs: ∃g,u1= .agg #[.int .i64 0, .pointer (some ⟨g,0,none⟩)]∧u2= .agg #[.int .i64 0, .pointer (some ⟨g,0,none⟩)]
 ·obtain⟨g,rfl,rfl⟩:=hs
  have e:=siv_one h1 h2
  subst e
  rw[Int.sub_self]
  exact cdIntSame_c g B1 x op d w ho hd hd2 h1
 ·exact cdInt_c B1 B2 u1 u2 x y op d w ho hd hd2 h1 h2 hx hy fun g1 g2 e1 e2 e=>hs ⟨g1,e1,e▸e2⟩
theorem cdEq2_c (B1 B2:Nat) (v1 v2:Value) (s t:Sca) (d:Int) (w:World) (hd: ¬d<1) (hd2:d≤1000) (h1:ScaV B1 w v1 s) (h2:ScaV B2 w v2 t) (f1:s.fit) (f2:t.fit) (hT:Thr w):
    Calls Tryz.prog 29 #[.int .i8 37,v1,v2, .int .i64 d] w fun e w'=>e= .returned (.tuple #[.bool (eqS s t), .nilIface])∧Below w.heap.size w w':=by
  by_cases hii:s.kind=2∧t.kind=2
  · cases s<;>simp[Sca.kind] at hii
    cases t<;>simp[Sca.kind] at hii
    obtain⟨u1,rfl,k1⟩:=h1
    obtain⟨u2,rfl,k2⟩:=h2
    exact cdInt2_c B1 B2 u1 u2 _ _ 37 d w okEq hd hd2 k1 k2 f1 f2
  · have ha:Apart v1 v2:=fun g1 g2 e1 e2=>by
      exfalso
      subst e1 e2
      apply hii
      constructor
      ·cases s<;>first|rfl|cases h1
      ·cases t<;>first|rfl|cases h2
    by_cases h4:s.kind=4
    · by_cases h4':t.kind=4
      · cases s<;>simp[Sca.kind] at h4
        cases t<;>simp[Sca.kind] at h4'
        cases h1;cases h2
        rename_i a b
        have:=cdString_c 37 a b d w okEq hd hd2
        rw[show tw 37 (Lib.compareBytes a.data.toList b.data.toList)=eqS (.str a) (.str b) by
          show(Lib.compareBytes a.data.toList b.data.toList==0)=(a==b)
          rw[←eqS_bytes];rfl] at this
        exact this
      · have hs:=sameType_c B1 B2 v1 v2 s t w h1 h2
        rw[show(s.kind==t.kind)=false by rw[h4];simp;exact fun e=>h4' e.symm] at hs
        obtain⟨T,x,rfl,hn⟩:=notNum h1 (by omega) (by omega)
        obtain⟨T2,x2,K2,rfl,_⟩:=typeAt h2
        rw[show eqS s t=false by cases s<;>simp[Sca.kind] at h4;cases t<;>first|rfl|exact absurd rfl h4']
        exact cdOther_c T T2 x x2 d w hd hd2 hn (Lib.hid hs)
    ·exact cdEq_c B1 B2 v1 v2 s t d w hd hd2 h1 h2 f1 f2 ha hT h4
theorem eqV_fuel: ∀(i j a b:Nat) (x y:VT),HC i x→HC j y→i<a→i<b→eqV a x y=eqV b x y
 |i,j,a,b,x,y,hx,hy,ha,hb=>by
  obtain⟨a,rfl⟩: ∃a',a=a'+1:=⟨a-1,by omega⟩
  obtain⟨b,rfl⟩: ∃b',b=b'+1:=⟨b-1,by omega⟩
  rcases hx.cases with sx|⟨kx,bx,_,i',rfl,cx⟩<;>rcases hy.cases with sy|⟨ky,bY,_,j',rfl,cy⟩
  ·obtain⟨s,hs,fs⟩:=sx
   obtain⟨t,ht,ft⟩:=sy
   rw[eqV_sca a hs ht,eqV_sca b hs ht]
  ·rw[eqV_far a (Or.inl ⟨sx.kind.2,ky⟩),eqV_far b (Or.inl ⟨sx.kind.2,ky⟩)]
  ·rw[eqV_far a (Or.inr ⟨kx,sy.kind.2⟩),eqV_far b (Or.inr ⟨kx,sy.kind.2⟩)]
  ·have ht:x.f4=y.f4:=by rw[bx.2.2.2,bY.2.2.2]
   rw[eqV_tup a kx ky ht,eqV_tup b kx ky ht]
   congr 1
   rw[Bool.eq_iff_iff,all2_iff,all2_iff]
   exact⟨fun h q h1 h2=>by rw[←eqV_fuel i' j' a b _ _ (cx _ (List.getElem_mem h1)) (cy _ (List.getElem_mem h2)) (by omega) (by omega)];exact h q h1 h2,fun h q h1 h2=>by rw[eqV_fuel i' j' a b _ _ (cx _ (List.getElem_mem h1)) (cy _ (List.getElem_mem h2)) (by omega) (by omega)];exact h q h1 h2⟩
theorem sliceO_eq {n m:Nat} {E:Nat→Bool} {O:Nat→Option Bool} {r:Bool} (h1:n≠m→r=false) (h2:n=m→(r=true↔ ∀i,i<n→E i=true)):sliceO 37 n m E O=some r:=by
  by_cases e:n=m
  · have hc: ¬(n≠m∧((37:Int)=37∨(37:Int)=38)):=fun h=>h.1 e
    by_cases ha: ∀i,i<n→E i=true
    · rw[sliceO_all hc fun q hq=>ha q (by omega),(h2 e).2 ha,e,Int.sub_self]
      rfl
    · have hr:r=false:=by
        cases r
        ·rfl
        ·exact absurd ((h2 e).1 rfl) ha
      have hex: ∃j,j<n∧E j=false∧ ∀q,q<j→E q=true:=by
        have hf: ∀k,k≤n→(∀i,i<k→E i=true)∨ ∃j,j<k∧E j=false∧ ∀q,q<j→E q=true:=by
          intro k
          induction k with
          |zero=>intro _;exact Or.inl fun i h=>absurd h (Nat.not_lt_zero _)
          |succ k ih=>
            intro hk
            rcases ih (by omega) with h|⟨j,hj,h⟩
            · by_cases hek:E k=true
              ·exact Or.inl fun i hi=>by rcases Nat.lt_succ_iff_lt_or_eq.1 hi with hi|hi;exact h i hi;rw[hi];exact hek
              ·exact Or.inr ⟨k,by omega,by simpa using hek,h⟩
            ·exact Or.inr ⟨j,by omega,h⟩
        rcases hf n (Nat.le_refl _) with h|h
        ·exact absurd h ha
        ·exact h
      obtain⟨j,hj,hej,hq⟩:=hex
      rw[sliceO_at hc hj (by omega) hej hq,if_pos rfl,hr]
  · unfold sliceO
    rw[if_pos ⟨e,Or.inl rfl⟩,h1 e]
    rfl
theorem eqHC_c: ∀(n n2 B1 B2:Nat) (v1 v2:Value) (x y:VT) (d:Int) (w:World),PV B1 n w v1 x→PV B2 n2 w v2 y→HC n x→HC n2 y→(n:Int)<d→d≤10→n<9→Thr w→
 Calls Tryz.prog 29 #[.int .i8 37,v1,v2, .int .i64 d] w fun e w'=>e= .returned (.tuple #[.bool (eqV 9 x y), .nilIface])∧Below w.heap.size w w'
 |n,n2,B1,B2,v1,v2,x,y,d,w,p1,p2,hx,hy,hd,hd2,hn9,hT=>by
  have hd1: ¬d<1:=by omega
  have hd3:d≤1000:=by omega
  have HS:=sameTypeP_c p1 p2
  rcases hx.cases with sx|⟨kx,bx,lx,i',rfl,cx⟩<;>rcases hy.cases with sy|⟨ky,bY,ly,j',rfl,cy⟩
  ·obtain⟨s,hs,fs,q1⟩:=p1.to_s sx.kind.2
   obtain⟨t,ht,ft,q2⟩:=p2.to_s sy.kind.2
   rw[eqV_sca 8 hs ht]
   exact cdEq2_c B1 B2 v1 v2 s t d w hd1 hd3 q1 q2 fs ft hT
  ·rw[eqV_far 8 (Or.inl ⟨sx.kind.2,ky⟩)]
   have:=sx.kind
   rw[show(x.f0==y.f0)=false by simp;omega] at HS
   obtain⟨s,hs,fs,q1⟩:=p1.to_s sx.kind.2
   obtain⟨T2,x2,rfl,hn2⟩:=notNumP p2 (by omega) (by omega)
   by_cases k2:s.kind=2
   ·cases s<;>simp[Sca.kind] at k2
    obtain⟨u1,rfl,g1⟩:=q1
    obtain⟨y1,p,rfl⟩:=g1.shape
    exact cdIntO_c T2 y1 p x2 d w hd1 hd3 hn2 (Lib.hid HS)
   ·by_cases k3:s.kind=3
    ·cases s<;>simp[Sca.kind] at k3
     cases q1
     exact cdFloatO_c T2 _ x2 d w hd1 hd3 hn2 (Lib.hid HS)
    ·obtain⟨T,u,rfl,hn1⟩:=notNum q1 k2 k3
     exact cdOther_c T T2 u x2 d w hd1 hd3 hn1 (Lib.hid HS)
  ·rw[eqV_far 8 (Or.inr ⟨kx,sy.kind.2⟩)]
   have:=sy.kind
   rw[show(x.f0==y.f0)=false by simp;omega] at HS
   obtain⟨T,u,rfl,hn1⟩:=notNumP p1 (by omega) (by omega)
   obtain⟨T2,u2,rfl⟩:=p2.iface
   exact cdOther_c T T2 u u2 d w hd1 hd3 hn1 (Lib.hid HS)
  ·rw[show(x.f0==y.f0)=true by simp;omega] at HS
   rcases p1 with p1|⟨_,⟨h6,_⟩|⟨_,s1,rfl,r1⟩|⟨h8,_⟩|⟨h9,_⟩⟩
   ·exfalso;have:=p1.kind;omega
   ·exfalso;omega
   ·rcases p2 with p2|⟨_,⟨h6,_⟩|⟨_,s2,rfl,r2⟩|⟨h8,_⟩|⟨h9,_⟩⟩
    ·exfalso;have:=p2.kind;omega
    ·exfalso;omega
    ·obtain⟨A,c1,us,rfl,l1,rc1,P1⟩:=r1.rowC
     obtain⟨B,c2,vs,rfl,l2,rc2,P2⟩:=r2.rowC
     have ht:x.f4=y.f4:=by rw[bx.2.2.2,bY.2.2.2]
     have hw:IntKind.i64.wrap (d-1)=d-1:=IntWalk.i64_in _ (by omega)
     obtain⟨E,hE⟩: ∃E:Nat→Bool,∀i (h1:i<x.f5.length) (h2:i<y.f5.length),E i=eqV 9 x.f5[i] y.f5[i]:=⟨fun i=>if h:i<x.f5.length∧i<y.f5.length then eqV 9 x.f5[i] y.f5[i] else true,fun i h1 h2=>dif_pos ⟨h1,h2⟩⟩
     have hsl:sliceO 37 us.length vs.length E (fun _=>none)=some (eqV 9 x y):=by
      rw[eqV_tup 8 kx ky ht]
      refine sliceO_eq (fun hne=>?_) fun he=>?_
      ·rw[Bool.and_eq_false_iff];left;simp;omega
      ·rw[Bool.and_eq_true,all2_iff]
       constructor
       ·rintro⟨_,h⟩ i hi
        rw[hE i (by omega) (by omega),eqV_fuel i' j' 9 8 _ _ (cx _ (List.getElem_mem _)) (cy _ (List.getElem_mem _)) (by omega) (by omega)]
        exact h i (by omega) (by omega)
       ·intro h
        refine⟨by simp;omega,fun i h1 h2=>?_⟩
        rw[←eqV_fuel i' j' 9 8 _ _ (cx _ (List.getElem_mem h1)) (cy _ (List.getElem_mem h2)) (by omega) (by omega),←hE i h1 h2]
        exact h i (by omega)
     have:=cdCmp_c 98 287 (.slice A us.length c1) (.slice B vs.length c2) 37 d (some (eqV 9 x y)) w hd1 hd3 as109Tuple methCmpTuple (enters_of Tryz.func287 (by kernel_rfl) rfl) (Lib.hid HS) (Lib.hid fun W hW=>tupSame_c _ _ 37 d _ W (Lib.hid (by
      rw[←hsl]
      refine sliceCompare_c 37 d (d-1) A B c1 c2 us vs E (fun _=>none) W okEq rfl hw (rc1.below hW) (rc2.below hW) (by omega) (by omega) (fun i hi=>(P1 i hi (by omega)).iface) (fun i hi=>(P2 i hi (by omega)).iface) (fun i h1 h2 W2 hW2=>?_) (fun h=>absurd rfl h)
      rw[hE i (by omega) (by omega)]
      have hb2:=hW.trans (hW2.mono hW.size)
      exact equalDepth_c _ _ _ _ W2 (Lib.hid (eqHC_c i' j' B1 B2 us[i] vs[i] _ _ (d-1) W2 ((P1 i h1 (by omega)).below hb2) ((P2 i h2 (by omega)).below hb2) (cx _ (List.getElem_mem _)) (cy _ (List.getElem_mem _)) (by omega) (by omega) (by omega) (hT.below hb2))))))
     exact this
    ·exfalso;omega
    ·exfalso;omega
   ·exfalso;omega
   ·exfalso;omega
theorem as141P {B n:Nat} {w0:World} {v:Value} {x:VT} (h:PV B n w0 v x) (hk: ¬x.f0=4) (w:World):(Instr.typeAssert v 57 141 true).run Tryz.prog w= .ok (.tuple #[.string ⟨#[]⟩, .bool false]) w:=by
 have hs:PVs B w0 v x→(Instr.typeAssert v 57 141 true).run Tryz.prog w= .ok (.tuple #[.string ⟨#[]⟩, .bool false]) w:=fun⟨s,hc,_,h⟩=>as141O h (fun e=>hk (by rw[hc.kind,e];rfl)) w
 cases n with
 |zero=>exact hs h
 |succ n=>
  rcases h with h|⟨_,⟨_,g,sl,rfl,_⟩|⟨_,sl,rfl,_⟩|⟨_,g,es,rfl,_⟩|⟨_,g,es,rfl,_⟩⟩
  ·exact hs h
  ·exact a141List _ w
  ·exact a141Tuple _ w
  ·exact a141Dict _ w
  ·exact a141Set _ w
theorem notStr {B n:Nat} {w:World} {v:Value} {x:VT} (h:PV B n w v x) (hk: ¬x.f0=4): ∃T u,v= .iface T u∧141≠T:=by
 have hs:PVs B w v x→ ∃T u,v= .iface T u∧141≠T:=fun⟨s,hc,_,h⟩=>by
  have hk':=hc.kind
  cases s<;>first|(cases h;exact⟨_,_,rfl,by decide⟩)|(obtain⟨u,rfl,_⟩:=h;exact⟨_,_,rfl,by decide⟩)|(exact absurd hk' hk)
 cases n with
 |zero=>exact hs h
 |succ n=>
  rcases h with h|⟨_,⟨_,g,sl,rfl,_⟩|⟨_,sl,rfl,_⟩|⟨_,g,es,rfl,_⟩|⟨_,g,es,rfl,_⟩⟩
  ·exact hs h
  all_goals exact⟨_,_,rfl,by decide⟩
set_option maxRecDepth 100000 in
theorem equalHC_c (n n2 B1 B2:Nat) (v1 v2:Value) (x y:VT) (w:World) (p1:PV B1 n w v1 x) (p2:PV B2 n2 w v2 y) (hx:HC n x) (hy:HC n2 y) (hn:n≤8) (hT:Thr w) (hL:Lim w):
 Calls Tryz.prog 121 #[v1,v2] w fun e w'=>e= .returned (.tuple #[.bool (eqV 9 x y), .nilIface])∧Below w.heap.size w w':=by
 by_cases hk:x.f0=4
 ·obtain⟨s,hs,fs,q1⟩:=p1.to_s (by omega)
  have hks:=hs.kind
  cases s<;>simp[Sca.kind] at hks<;>first|(exfalso;omega)|skip
  cases q1
  have hta:=as141String
  by_cases hk2:y.f0=4
  ·obtain⟨t,ht,ft,q2⟩:=p2.to_s (by omega)
   have hkt:=ht.kind
   cases t<;>simp[Sca.kind] at hkt<;>first|(exfalso;omega)|skip
   cases q2
   rw[eqV_sca 8 hs ht]
   have hq:=eqlStr
   clear p1 p2 hx hy hT hL
   go_enter Tryz.func121,Tryz.ntmps121
   go_wp2
   go_ret2
   exact⟨rfl,Below.refl _ _⟩
  ·obtain⟨T2,x2,rfl,hne⟩:=notStr p2 hk2
   have hq:=fun a w=>eqlStrO T2 a x2 w hne
   have hf:eqV 9 x y=false:=by
    unfold eqV isNum
    rw[if_neg (by rw[hk];simp),if_pos (Or.inl (by omega))]
   rw[hf]
   clear p1 p2 hx hy hT hL hne hk2
   go_enter Tryz.func121,Tryz.ntmps121
   go_wp2
   go_ret2
   exact⟨rfl,Below.refl _ _⟩
 ·have hta:=as141P p1 hk
  have HC:=Lib.hid (equalDepth_c v1 v2 (eqV 9 x y) 10 w (Lib.hid (eqHC_c n n2 B1 B2 v1 v2 x y 10 w p1 p2 hx hy (by omega) (by omega) (by omega) hT)))
  obtain⟨T1,u1,rfl⟩:=p1.iface
  obtain⟨T2,u2,rfl⟩:=p2.iface
  unfold Lim at hL
  clear hT p1 p2 hx hy hk
  go_enter Tryz.func121,Tryz.ntmps121
  go_wp2_with (go_at_call 149;(with_reducible refine HC.out.mono ?_);rintro e w1 ⟨rfl,hb1⟩;have HB:=Lib.hid hb1;clear hb1)
  go_ret2
  exact⟨rfl,HB.out⟩
end Go.Proofs.YtkplnbjgkhmbcaaGreatDoor
