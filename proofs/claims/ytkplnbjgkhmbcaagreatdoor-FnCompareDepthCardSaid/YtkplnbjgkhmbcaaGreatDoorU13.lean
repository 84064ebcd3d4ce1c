/- TreeFind TreeWith TreeEq TreeEq2 TreeBase TreeCB TreeKey TreeSca TreeRow TreeSet -/
import Derived.Test.YtkplnbjgkhmbcaaGreatDoorU12
import Derived.BigRegion
namespace Go.Proofs.YtkplnbjgkhmbcaaGreatDoor
open Go.RowKit Go.Shelf Go.Proofs.YtkplnbjgkhmbcaaGreatDoorW.PrintWords Go.Proofs.YtkplnbjgkhmbcaaGreatDoorW.PrintLast Go.Proofs.YtkplnbjgkhmbcaaGreatDoorW.PrintMore Go.Proofs.YtkplnbjgkhmbcaaGreatDoor.PFnCompare Go.Proofs.YtkplnbjgkhmbcaaGreatDoor.PCmp Go.Proofs.YtkplnbjgkhmbcaaGreatDoor.PbytesOf
set_option linter.unusedVariables false
set_option linter.unusedSimpArgs false
def NoneTo (E:VT→Bool) (xs:List VT) (step:Nat) (i:Nat):Prop:= ∀k (h:k*step<xs.length),k*step<i→E xs[k*step]=false
def FindE (E:VT→Bool) (xs:List VT) (step:Nat) (r:Int):Prop:=
 (r= -1∧NoneTo E xs step xs.length)∨ ∃k,∃h:k*step<xs.length,r=((k*step:Nat):Int)∧E xs[k*step]=true∧NoneTo E xs step (k*step)
theorem findE_by (E:VT→VT→Bool) (key:VT) (xs:List VT) (step:Nat) (hs:0<step): ∀(d k i:Nat),i=k*step→xs.length-i≤d→NoneTo (fun x=>E x key) xs step i→FindE (fun x=>E x key) xs step (match findBy E xs step key (d+1) i with|some j=>(j:Int)|none=> -1)
  |0,k,i,hi,hd,hn=>by
    unfold findBy
    rw[dif_neg (by omega)]
    exact Or.inl ⟨rfl,fun q h1 h2=>hn q h1 (by omega)⟩
  |d+1,k,i,hi,hd,hn=>by
    unfold findBy
    by_cases h:i<xs.length
    · rw[dif_pos h]
      by_cases he:E xs[i] key=true
      · rw[if_pos he]
        subst hi
        exact Or.inr ⟨k,h,rfl,he,hn⟩
      · rw[if_neg he]
        refine findE_by E key xs step hs d (k+1) (i+step) (by rw[hi,Nat.succ_mul]) (by omega) fun q h1 h2=>?_
        by_cases hq:q*step<i
        ·exact hn q h1 hq
        · have:q=k:=by
            have h3:k*step≤q*step:=by omega
            have h4:q*step<(k+1)*step:=by rw[Nat.succ_mul];omega
            have h5:=Nat.le_of_mul_le_mul_right h3 hs
            have h6:=Nat.lt_of_mul_lt_mul_right h4
            omega
          subst this
          subst hi
          simpa using he
    · rw[dif_neg h]
      exact Or.inl ⟨rfl,fun q h1 h2=>hn q h1 (by omega)⟩
theorem findE_one {E:VT→Bool} {xs:List VT} {step:Nat} {r r':Int} (hs:0<step) (h:FindE E xs step r) (h':FindE E xs step r'):r=r':=by
 rcases h with⟨rfl,h⟩|⟨k,hk,rfl,he,hn⟩<;>rcases h' with⟨rfl,h'⟩|⟨k',hk',rfl,he',hn'⟩
 ·rfl
 ·rw[h k' hk' hk'] at he';cases he'
 ·rw[h' k hk hk] at he;cases he
 ·rcases Nat.lt_trichotomy (k*step) (k'*step) with hlt|heq|hlt
  ·rw[hn' k hk hlt] at he;cases he
  ·rw[heq]
  ·rw[hn k' hk' hlt] at he';cases he'
def findR (E:VT→VT→Bool) (xs:List VT) (step:Nat) (key:VT):Int:=match findV E xs step key with|some j=>(j:Int)|none=> -1
theorem findR_is (E:VT→VT→Bool) (xs:List VT) (step:Nat) (hs:0<step) (key:VT) {r:Int} (h:FindE (fun x=>E x key) xs step r):r=findR E xs step key:=by
 have:=findE_by E key xs step hs xs.length 0 0 (by omega) (by omega) (fun q h1 h2=>absurd h2 (Nat.not_lt_zero _))
 exact findE_one hs h this
set_option maxRecDepth 100000 in
set_option maxHeartbeats 1000000 in
theorem treeFind_c (E:VT→VT→Bool) (A:Option Addr) (c:Nat) (xs:List VT) (y:VT) (v:Value) (step:Nat) (w:World) (h:kV.C w A xs.length xs) (hy:VR w v y) (hn:xs.length≤1000000) (hs:step=1∨step=2)
    (hE: ∀W,Below w.heap.size w W→ ∀i (hi:i<xs.length) u v',VR W u xs[i]→VR W v' y→Calls Tryz.prog 30 #[u,v'] W fun e W'=>e= .returned (.bool (E xs[i] y))∧Below W.heap.size W W'):
    Calls Tryz.prog 53 #[.slice A xs.length c, .int .i64 step,v] w fun e w'=>e= .returned (.int .i64 (findR E xs step y))∧Below w.heap.size w w':=by
  have HY:=Lib.hid hy
  obtain⟨A2,c2,A5,c5,rfl,_⟩:=hy.open
  obtain⟨W0,hW0⟩: ∃W,W=w.alloc (.cells #[.int .i64 y.f0, .bool y.f1, .slice A2 y.f2.length c2, .int .u64 y.f3, .string y.f4, .slice A5 y.f5.length c5] 26):=⟨_,rfl⟩
  have HB0:Hid (Below w.heap.size w W0):=by rw[hW0];exact Lib.hid ((Below.refl _ w).alloc (Nat.le_refl _) _)
  have HK0:Hid (W0.heap[w.heap.size]?=some (.cells #[.int .i64 y.f0, .bool y.f1, .slice A2 y.f2.length c2, .int .u64 y.f3, .string y.f4, .slice A5 y.f5.length c5] 26 (0,0))):=by rw[hW0];exact Lib.hid (blk_new _ _)
  have HK:=Lib.hid (fun i hi=>kid_at h i hi rfl)
  have HE:Hid (∀W,Below w.heap.size w W→ ∀i (hi:i<xs.length) u,VR W u xs[i]→Calls Tryz.prog 30 #[u, .agg #[.int .i64 y.f0, .bool y.f1, .slice A2 y.f2.length c2, .int .u64 y.f3, .string y.f4, .slice A5 y.f5.length c5]] W fun e W'=>e= .returned (.bool (E xs[i] y))∧Below W.heap.size W W'):=Lib.hid fun W hW i hi u hu=>hE W hW i hi u _ hu (HY.out.below hW)
  have HR:Hid (∀r,FindE (fun x=>E x y) xs step r→r=findR E xs step y):=Lib.hid fun r hr=>findR_is E xs step (by omega) y hr
  have hs2:(0:Int)<step∧(step:Int)≤2:=by omega
  obtain⟨hs3,hs4⟩:=hs2
  clear h hy hE hs
  go_enter Tryz.func53,Tryz.ntmps53
  go_wp2_with fail
  rw[←hW0]
  clear hW0
  go_loopw [7] (fun i wr=> ∃j k:Nat,j=k*step∧j≤xs.length+2∧i= .int .i64 (j:Int)∧Hid (NoneTo (fun x=>E x y) xs step j)∧Hid (Below w.heap.size w wr∧wr.heap[w.heap.size]?=some (.cells #[.int .i64 y.f0, .bool y.f1, .slice A2 y.f2.length c2, .int .u64 y.f3, .string y.f4, .slice A5 y.f5.length c5] 26 (0,0)))) (fun i _=>xs.length+2-(intOf i).toNat)
  case atStart=>exact⟨0,0,by omega,Nat.zero_le _,rfl,Lib.hid fun q h1 h2=>absurd h2 (Nat.not_lt_zero _),Lib.hid ⟨HB0.out,HK0.out⟩⟩
  case round=>
    obtain⟨j,k,hjk,hj,rfl,HQ,HW⟩:=hrel
    by_cases hlt:j<xs.length
    · obtain⟨b,o,B2,d2,B5,d5,rfl,hb,k0,k1,k2,k3,k4,k5,hV⟩:=HK.out j hlt
      have hB:=HW.out.1
      have x0:=(hB.cell (p:=⟨b,o+j*6,none⟩) hb).trans k0
      have x1:=(hB.cell (p:=⟨b,o+j*6+1,none⟩) hb).trans k1
      have x2:=(hB.cell (p:=⟨b,o+j*6+2,none⟩) hb).trans k2
      have x3:=(hB.cell (p:=⟨b,o+j*6+3,none⟩) hb).trans k3
      have x4:=(hB.cell (p:=⟨b,o+j*6+4,none⟩) hb).trans k4
      have x5:=(hB.cell (p:=⟨b,o+j*6+5,none⟩) hb).trans k5
      have z:=cells6 HW.out.2
      have HEj:=Lib.hid (fun W (hW:Below w.heap.size w W)=>HE.out W hW j hlt _ (hV.below hW))
      clear k0 k1 k2 k3 k4 k5 hV hB
      obtain⟨qj,hqj⟩: ∃b,E xs[j] y=b:=⟨_,rfl⟩
      rw[hqj] at HEj
      have HQJ:=Lib.hid hqj
      have HJK:=Lib.hid hjk
      clear hqj hjk
      go_upto_region 4 with fail
      go_region_held3 (fun W=>(W.cell? ⟨b,o+j*6,none⟩=some (.int .i64 xs[j].f0)∧W.cell? ⟨b,o+j*6+1,none⟩=some (.bool xs[j].f1)∧W.cell? ⟨b,o+j*6+2,none⟩=some (.slice B2 xs[j].f2.length d2)∧W.cell? ⟨b,o+j*6+3,none⟩=some (.int .u64 xs[j].f3)∧W.cell? ⟨b,o+j*6+4,none⟩=some (.string xs[j].f4)∧W.cell? ⟨b,o+j*6+5,none⟩=some (.slice B5 xs[j].f5.length d5))∧(W.cell? ⟨w.heap.size,0,none⟩=some (.int .i64 y.f0)∧W.cell? ⟨w.heap.size,1,none⟩=some (.bool y.f1)∧W.cell? ⟨w.heap.size,2,none⟩=some (.slice A2 y.f2.length c2)∧W.cell? ⟨w.heap.size,3,none⟩=some (.int .u64 y.f3)∧W.cell? ⟨w.heap.size,4,none⟩=some (.string y.f4)∧W.cell? ⟨w.heap.size,5,none⟩=some (.slice A5 y.f5.length c5))) (first|(with_reducible exact⟨⟨r0,r1,r2,r3,r4,r5⟩,q⟩)|(with_reducible exact⟨⟨x0,x1,x2,x3,x4,x5⟩,z⟩)|exact⟨⟨x0,x1,x2,x3,x4,x5⟩,z⟩) (first
        |(go_at_call 30;(with_reducible refine(HEj.out _ (by first|(with_reducible exact HW.out.1.drew)|exact HW.out.1.drew)).mono ?_);rintro e w1 ⟨rfl,hb1⟩;have HB1:Hid (Below w.heap.size w w1∧w1.heap[w.heap.size]?=some (.cells #[.int .i64 y.f0, .bool y.f1, .slice A2 y.f2.length c2, .int .u64 y.f3, .string y.f4, .slice A5 y.f5.length c5] 26 (0,0))):=Lib.hid ⟨HW.out.1.drew.trans (hb1.mono HW.out.1.size),(hb1.block _ (lt_blk HW.out.2)).trans HW.out.2⟩;have hbw:=Nat.lt_of_lt_of_le hb HW.out.1.size;have r0:=(hb1.cell (p:=⟨b,o+j*6,none⟩) hbw).trans x0;have r1:=(hb1.cell (p:=⟨b,o+j*6+1,none⟩) hbw).trans x1;have r2:=(hb1.cell (p:=⟨b,o+j*6+2,none⟩) hbw).trans x2;have r3:=(hb1.cell (p:=⟨b,o+j*6+3,none⟩) hbw).trans x3;have r4:=(hb1.cell (p:=⟨b,o+j*6+4,none⟩) hbw).trans x4;have r5:=(hb1.cell (p:=⟨b,o+j*6+5,none⟩) hbw).trans x5;have q:=cells6 HB1.out.2;clear hb1))
      clear x0 x1 x2 x3 x4 x5 z r0 r1 r2 r3 r4 r5 q
      cases qj
      · go_wp2
        go_roundw
        case rel=>
          refine⟨j+step,k+1,by rw[HJK.out,Nat.succ_mul],by omega,by go_num,Lib.hid fun q h1 h2=>?_,HB1⟩
          have hst:0<step:=by omega
          by_cases hq:q*step<j
          ·exact HQ.out q h1 hq
          · have e:q=k:=by
              have h3:k*step≤q*step:=by rw[←HJK.out];omega
              have h4:q*step<(k+1)*step:=by rw[Nat.succ_mul,←HJK.out];omega
              have h5:=Nat.le_of_mul_le_mul_right h3 hst
              have h6:=Nat.lt_of_mul_lt_mul_right h4
              omega
            subst e
            have:=HQJ.out
            have ej:=HJK.out
            subst ej
            exact this
        case measure=>simp[intOf];omega
      · go_wp2
        go_ret
        have ej:=HJK.out
        have hq:=HQJ.out
        subst ej
        exact⟨by rw[←HR.out _ (Or.inr ⟨k,hlt,rfl,hq,HQ.out⟩)];rfl,HB1.out.1⟩
    · go_wp2
      go_ret
      exact⟨by rw[←HR.out _ (Or.inl ⟨rfl,fun q h1 h2=>HQ.out q h1 (by omega)⟩)];rfl,HW.out.1⟩
theorem findR_neg (E:VT→VT→Bool) (ys:List VT) (step:Nat) (k:VT):decide (findR E ys step k<0)=!(findV E ys step k).isSome:=by
 unfold findR
 cases findV E ys step k with
 |none=>rfl
 |some j=>simp
def AllTo (P:VT→Bool) (xs:List VT) (j:Nat):Prop:= ∀i (h:i<xs.length),i<j→P xs[i]=true
theorem all_of_to {P:VT→Bool} {xs:List VT} (h:AllTo P xs xs.length):xs.all P=true:=by
 rw[List.all_eq_true]
 intro x hx
 obtain⟨i,hi,rfl⟩:=List.getElem_of_mem hx
 exact h i hi hi
theorem all_not {P:VT→Bool} {xs:List VT} (i:Nat) (h:i<xs.length) (hp:P xs[i]=false):xs.all P=false:=by
 rw[Bool.eq_false_iff]
 intro hh
 rw[List.all_eq_true] at hh
 have:=hh _ (List.getElem_mem h)
 rw[hp] at this
 cases this
set_option maxRecDepth 100000 in
set_option maxHeartbeats 1000000 in
theorem treeWithin_c (E:VT→VT→Bool) (x y:VT) (v1 v2:Value) (w:World) (h1:VR w v1 x) (h2:VR w v2 y) (hn1:x.f5.length≤1000000) (hn2:y.f5.length≤1000000)
 (hE: ∀W,Below w.heap.size w W→ ∀j (hj:j<y.f5.length) i (hi:i<x.f5.length) u v',VR W u y.f5[j]→VR W v' x.f5[i]→Calls Tryz.prog 30 #[u,v'] W fun e W'=>e= .returned (.bool (E y.f5[j] x.f5[i]))∧Below W.heap.size W W'):
 Calls Tryz.prog 66 #[v1,v2] w fun e w'=>e= .returned (.bool (x.f5.all (fun k=>(findV E y.f5 1 k).isSome)))∧Below w.heap.size w w':=by
 obtain⟨A2,c2,A5,c5,rfl,_,_,_,g1⟩:=h1.open
 obtain⟨B2,d2,B5,d5,rfl,_,_,_,g2⟩:=h2.open
 obtain⟨a0,a1,a2,a3,a4,xs⟩:=x
 obtain⟨b0,b1,b2,b3,b4,ys⟩:=y
 dsimp only at*
 have HF:Hid (∀W,Below w.heap.size w W→ ∀i (hi:i<xs.length) u,VR W u xs[i]→Calls Tryz.prog 53 #[.slice B5 ys.length d5, .int .i64 1,u] W fun e W'=>e= .returned (.int .i64 (findR E ys 1 xs[i]))∧Below W.heap.size W W'):=Lib.hid fun W hW i hi u hu=>
  treeFind_c E B5 d5 ys xs[i] u 1 W (Kd.C_below g2 hW) hu hn2 (Or.inl rfl) fun W2 hW2 j hj u2 v2 k1 k2=>hE W2 (hW.trans (hW2.mono hW.size)) j hj i hi u2 v2 k1 k2
 have HK:=Lib.hid (fun i hi=>kid_at g1 i hi rfl)
 obtain⟨W0,hW0⟩: ∃W,W=(w.alloc (.cells #[.int .i64 a0, .bool a1, .slice A2 a2.length c2, .int .u64 a3, .string a4, .slice A5 xs.length c5] 26)).alloc (.cells #[.int .i64 b0, .bool b1, .slice B2 b2.length d2, .int .u64 b3, .string b4, .slice B5 ys.length d5] 26):=⟨_,rfl⟩
 have HT0:Hid (TB w #[.int .i64 a0, .bool a1, .slice A2 a2.length c2, .int .u64 a3, .string a4, .slice A5 xs.length c5] #[.int .i64 b0, .bool b1, .slice B2 b2.length d2, .int .u64 b3, .string b4, .slice B5 ys.length d5] W0):=by rw[hW0];exact Lib.hid (tb_start w _ _)
 clear h1 h2 g1 g2 hE
 go_enter Tryz.func66,Tryz.ntmps66
 go_wp2_with fail
 rw[←hW0]
 clear hW0
 go_loopw [5] (fun i wr=> ∃j:Nat,j≤xs.length∧i= .int .i64 (j:Int)∧Hid (AllTo (fun k=>(findV E ys 1 k).isSome) xs j)∧Hid (TB w #[.int .i64 a0, .bool a1, .slice A2 a2.length c2, .int .u64 a3, .string a4, .slice A5 xs.length c5] #[.int .i64 b0, .bool b1, .slice B2 b2.length d2, .int .u64 b3, .string b4, .slice B5 ys.length d5] wr)) (fun i _=>xs.length-(intOf i).toNat)
 case atStart=>exact⟨0,Nat.zero_le _,rfl,Lib.hid fun q h1 h2=>absurd h2 (Nat.not_lt_zero _),HT0⟩
 case round=>
  obtain⟨j,hj,rfl,HQ,HT⟩:=hrel
  by_cases hlt:j<xs.length
  ·obtain⟨b,o,B2',d2',B5',d5',rfl,hb,k0,k1,k2,k3,k4,k5,hV⟩:=HK.out j hlt
   have hB:=HT.out.low
   have x0:=(hB.cell (p:=⟨b,o+j*6,none⟩) hb).trans k0
   have x1:=(hB.cell (p:=⟨b,o+j*6+1,none⟩) hb).trans k1
   have x2:=(hB.cell (p:=⟨b,o+j*6+2,none⟩) hb).trans k2
   have x3:=(hB.cell (p:=⟨b,o+j*6+3,none⟩) hb).trans k3
   have x4:=(hB.cell (p:=⟨b,o+j*6+4,none⟩) hb).trans k4
   have x5:=(hB.cell (p:=⟨b,o+j*6+5,none⟩) hb).trans k5
   have z5:=(cells6 HT.out.b1).2.2.2.2.2
   have y5:=(cells6 HT.out.b2).2.2.2.2.2
   have HFj:=Lib.hid (fun W (hW:Below w.heap.size w W)=>HF.out W hW j hlt _ (hV.below hW))
   clear k0 k1 k2 k3 k4 k5 hV hB
   obtain⟨r,hr⟩: ∃r,findR E ys 1 xs[j]=r:=⟨_,rfl⟩
   have HN:=Lib.hid (findR_neg E ys 1 xs[j])
   rw[hr] at HFj HN
   clear hr
   go_upto_region 4 with fail
   go_region_held3 (fun W=>(W.cell? ⟨b,o+j*6,none⟩=some (.int .i64 xs[j].f0)∧W.cell? ⟨b,o+j*6+1,none⟩=some (.bool xs[j].f1)∧W.cell? ⟨b,o+j*6+2,none⟩=some (.slice B2' xs[j].f2.length d2')∧W.cell? ⟨b,o+j*6+3,none⟩=some (.int .u64 xs[j].f3)∧W.cell? ⟨b,o+j*6+4,none⟩=some (.string xs[j].f4)∧W.cell? ⟨b,o+j*6+5,none⟩=some (.slice B5' xs[j].f5.length d5'))∧W.cell? ⟨w.heap.size,5,none⟩=some (.slice (some ⟨b,o,none⟩) xs.length c5)∧W.cell? ⟨w.heap.size+1,5,none⟩=some (.slice B5 ys.length d5)) (first|(with_reducible exact⟨⟨r0,r1,r2,r3,r4,r5⟩,q,p⟩)|(with_reducible exact⟨⟨x0,x1,x2,x3,x4,x5⟩,z5,y5⟩)|exact⟨⟨x0,x1,x2,x3,x4,x5⟩,z5,y5⟩) (first
    |(go_at_call 53;(with_reducible refine(HFj.out _ (by first|(with_reducible exact HT.out.low.drew)|exact HT.out.low.drew)).mono ?_);rintro e w1 ⟨rfl,hb1⟩;have HT1:Hid (TB w #[.int .i64 a0, .bool a1, .slice A2 a2.length c2, .int .u64 a3, .string a4, .slice (some ⟨b,o,none⟩) xs.length c5] #[.int .i64 b0, .bool b1, .slice B2 b2.length d2, .int .u64 b3, .string b4, .slice B5 ys.length d5] w1):=Lib.hid ((HT.out.below ((Below.refl _ _).drew)).below hb1);have hbw:=Nat.lt_of_lt_of_le hb HT.out.low.size;have r0:=(hb1.cell (p:=⟨b,o+j*6,none⟩) hbw).trans x0;have r1:=(hb1.cell (p:=⟨b,o+j*6+1,none⟩) hbw).trans x1;have r2:=(hb1.cell (p:=⟨b,o+j*6+2,none⟩) hbw).trans x2;have r3:=(hb1.cell (p:=⟨b,o+j*6+3,none⟩) hbw).trans x3;have r4:=(hb1.cell (p:=⟨b,o+j*6+4,none⟩) hbw).trans x4;have r5:=(hb1.cell (p:=⟨b,o+j*6+5,none⟩) hbw).trans x5;have q:=(cells6 HT1.out.b1).2.2.2.2.2;have p:=(cells6 HT1.out.b2).2.2.2.2.2;clear hb1))
   clear x0 x1 x2 x3 x4 x5 z5 y5 r0 r1 r2 r3 r4 r5 q p
   obtain⟨s,hs⟩: ∃s,(findV E ys 1 xs[j]).isSome=s:=⟨_,rfl⟩
   rw[hs] at HN
   by_cases hneg:r<0
   ·go_wp2
    go_ret
    obtain rfl:s=false:=by have:=HN.out;simpa [hneg] using this.symm
    exact⟨by rw[all_not j hlt hs];rfl,HT1.out.low⟩
   ·go_wp2
    go_roundw
    case rel=>
     obtain rfl:s=true:=by have:=HN.out;simpa [hneg] using this.symm
     refine⟨j+1,by omega,by go_num,Lib.hid fun q h1 h2=>?_,HT1⟩
     by_cases hq:q<j
     ·exact HQ.out q h1 hq
     ·obtain rfl:q=j:=by omega
      exact hs
    case measure=>simp[intOf];omega
  ·have hjn:j=xs.length:=by omega
   subst hjn
   have z5:=(cells6 HT.out.b1).2.2.2.2.2
   have hall:=all_of_to HQ.out
   go_wp2
   go_ret
   exact⟨by rw[hall];rfl,HT.out.low⟩
theorem dictBy_step (e:VT→VT→Bool) (ys xs:List VT) (i:Nat) (h:i+1<xs.length):dictBy e ys (xs.drop i)=((match findV e ys 2 xs[i] with|none=>false|some j=>(match ys[j+1]? with|none=>false|some u=>e xs[i+1] u))&&dictBy e ys (xs.drop (i+2))):=by
 rw[List.drop_eq_getElem_cons (by omega),List.drop_eq_getElem_cons (i:=i+1) h]
 rfl
theorem dictBy_end (e:VT→VT→Bool) (ys xs:List VT) (i:Nat) (h: ¬i<xs.length):dictBy e ys (xs.drop i)=true:=by
 rw[List.drop_eq_nil_of_le (by omega)];rfl
theorem all2_step (e:VT→VT→Bool) (xs ys:List VT) (i:Nat) (h:i<xs.length) (h2:i<ys.length):all2 e (xs.drop i) (ys.drop i)=(e xs[i] ys[i]&&all2 e (xs.drop (i+1)) (ys.drop (i+1))):=by
 rw[List.drop_eq_getElem_cons h,List.drop_eq_getElem_cons h2]
 rfl
theorem all2_end (e:VT→VT→Bool) (xs ys:List VT) (i:Nat) (h: ¬i<xs.length):all2 e (xs.drop i) (ys.drop i)=true:=by
 rw[List.drop_eq_nil_of_le (by omega)];rfl
theorem findV_some {E:VT→VT→Bool} {ys:List VT} {key:VT} {step j:Nat} (hs:0<step) (h:findV E ys step key=some j): ∃k,∃h:j<ys.length,j=k*step∧E ys[j] key=true:=by
 have:=findE_by E key ys step hs ys.length 0 0 (by omega) (by omega) (fun q h1 h2=>absurd h2 (Nat.not_lt_zero _))
 unfold findV at h
 rw[h] at this
 rcases this with⟨e,_⟩|⟨k,hk,e,he,_⟩
 ·exact absurd e (by simp)
 ·have ej:j=k*step:=by exact Int.ofNat_inj.1 e
  subst ej
  exact⟨k,hk,rfl,he⟩
theorem findR_none {E:VT→VT→Bool} {ys:List VT} {key:VT} {step:Nat} (h:findV E ys step key=none):findR E ys step key= -1:=by unfold findR;rw[h]
theorem findR_some {E:VT→VT→Bool} {ys:List VT} {key:VT} {step j:Nat} (h:findV E ys step key=some j):findR E ys step key=(j:Int):=by unfold findR;rw[h]
set_option maxRecDepth 100000 in
set_option maxHeartbeats 1000000 in
theorem teNum (a0:Int) (a1:Bool) (a2:List Int) (a3:Int) (a4:ByteArray) (xs:List VT) (b0:Int) (b1:Bool) (b2:List Int) (b3:Int) (b4:ByteArray) (ys:List VT) (A2:Option Addr) (c2:Nat) (A5:Option Addr) (c5:Nat) (B2:Option Addr) (d2:Nat) (B5:Option Addr) (d5:Nat) (w:World) (H1:Hid (VR w (.agg #[.int .i64 a0, .bool a1, .slice A2 a2.length c2, .int .u64 a3, .string a4, .slice A5 xs.length c5]) ⟨a0,a1,a2,a3,a4,xs⟩)) (H2:Hid (VR w (.agg #[.int .i64 b0, .bool b1, .slice B2 b2.length d2, .int .u64 b3, .string b4, .slice B5 ys.length d5]) ⟨b0,b1,b2,b3,b4,ys⟩)) (hn1:isNum ⟨a0,a1,a2,a3,a4,xs⟩=true) (hn2:isNum ⟨b0,b1,b2,b3,b4,ys⟩=true) (l1:Leaf ⟨a0,a1,a2,a3,a4,xs⟩) (l2:Leaf ⟨b0,b1,b2,b3,b4,ys⟩):Calls Tryz.prog 30 #[.agg #[.int .i64 a0, .bool a1, .slice A2 a2.length c2, .int .u64 a3, .string a4, .slice A5 xs.length c5], .agg #[.int .i64 b0, .bool b1, .slice B2 b2.length d2, .int .u64 b3, .string b4, .slice B5 ys.length d5]] w fun e w'=>e= .returned (.bool (ncmp ⟨a0,a1,a2,a3,a4,xs⟩ ⟨b0,b1,b2,b3,b4,ys⟩==0))∧Below w.heap.size w w':=by
 have HN1:Hid (∀W,Below w.heap.size w W→Calls Tryz.prog 31 #[.agg #[.int .i64 a0, .bool a1, .slice A2 a2.length c2, .int .u64 a3, .string a4, .slice A5 xs.length c5]] W fun e W'=>e= .returned (.bool true)∧Below W.heap.size W W'):=Lib.hid fun W hW=>by have h:=number_c _ ⟨a0,a1,a2,a3,a4,xs⟩ W (H1.out.below hW);rw[hn1] at h;exact h
 have HN2:Hid (∀W,Below w.heap.size w W→Calls Tryz.prog 31 #[.agg #[.int .i64 b0, .bool b1, .slice B2 b2.length d2, .int .u64 b3, .string b4, .slice B5 ys.length d5]] W fun e W'=>e= .returned (.bool true)∧Below W.heap.size W W'):=Lib.hid fun W hW=>by have h:=number_c _ ⟨b0,b1,b2,b3,b4,ys⟩ W (H2.out.below hW);rw[hn2] at h;exact h
 obtain⟨W,hW⟩: ∃W,W=(w.alloc (.cells #[.int .i64 a0, .bool a1, .slice A2 a2.length c2, .int .u64 a3, .string a4, .slice A5 xs.length c5] 26)).alloc (.cells #[.int .i64 b0, .bool b1, .slice B2 b2.length d2, .int .u64 b3, .string b4, .slice B5 ys.length d5] 26):=⟨_,rfl⟩
 have HT:Hid (TB w #[.int .i64 a0, .bool a1, .slice A2 a2.length c2, .int .u64 a3, .string a4, .slice A5 xs.length c5] #[.int .i64 b0, .bool b1, .slice B2 b2.length d2, .int .u64 b3, .string b4, .slice B5 ys.length d5] W):=by rw[hW];exact Lib.hid (tb_start w _ _)
 have HC:Hid (∀W,Below w.heap.size w W→Calls Tryz.prog 33 #[.agg #[.int .i64 a0, .bool a1, .slice A2 a2.length c2, .int .u64 a3, .string a4, .slice A5 xs.length c5], .agg #[.int .i64 b0, .bool b1, .slice B2 b2.length d2, .int .u64 b3, .string b4, .slice B5 ys.length d5]] W fun e W'=>e= .returned (.int .i64 (ncmp ⟨a0,a1,a2,a3,a4,xs⟩ ⟨b0,b1,b2,b3,b4,ys⟩))∧Below W.heap.size W W'):=Lib.hid fun W hW=>cmpNumbers_c _ _ _ _ W (H1.out.below hW) (H2.out.below hW) l1 l2 hn1 hn2
 obtain⟨r,hr⟩: ∃r,ncmp ⟨a0,a1,a2,a3,a4,xs⟩ ⟨b0,b1,b2,b3,b4,ys⟩=r:=⟨_,rfl⟩
 rw[hr] at HC⊢
 clear hr l1 l2 hn1 hn2 H1 H2
 go_enter Tryz.func30,Tryz.ntmps30
 go_wp2_with fail
 rw[←hW]
 clear hW
 obtain⟨x0,x1,x2,x3,x4,x5⟩:=cells6 HT.out.b1
 obtain⟨y0,y1,y2,y3,y4,y5⟩:=cells6 HT.out.b2
 go_wp2_with (first
  |(go_at_call 31;(with_reducible refine(HN1.out _ HT.out.low).mono ?_);rintro e w1 ⟨rfl,hbw⟩;(replace HT:=Lib.hid (HT.out.below hbw));clear x0 x1 x2 x3 x4 x5 y0 y1 y2 y3 y4 y5;obtain⟨x0,x1,x2,x3,x4,x5⟩:=cells6 HT.out.b1;obtain⟨y0,y1,y2,y3,y4,y5⟩:=cells6 HT.out.b2;clear hbw)
  |(go_at_call 31;(with_reducible refine(HN2.out _ HT.out.low).mono ?_);rintro e w1 ⟨rfl,hbw⟩;(replace HT:=Lib.hid (HT.out.below hbw));clear x0 x1 x2 x3 x4 x5 y0 y1 y2 y3 y4 y5;obtain⟨x0,x1,x2,x3,x4,x5⟩:=cells6 HT.out.b1;obtain⟨y0,y1,y2,y3,y4,y5⟩:=cells6 HT.out.b2;clear hbw)
  |(go_at_call 33;(with_reducible refine(HC.out _ HT.out.low).mono ?_);rintro e w1 ⟨rfl,hbw⟩;(replace HT:=Lib.hid (HT.out.below hbw));clear x0 x1 x2 x3 x4 x5 y0 y1 y2 y3 y4 y5;obtain⟨x0,x1,x2,x3,x4,x5⟩:=cells6 HT.out.b1;obtain⟨y0,y1,y2,y3,y4,y5⟩:=cells6 HT.out.b2;clear hbw))
 go_ret
 exact⟨rfl,HT.out.low⟩
set_option maxRecDepth 100000 in
set_option maxHeartbeats 1000000 in
theorem teKindA (a0:Int) (a1:Bool) (a2:List Int) (a3:Int) (a4:ByteArray) (xs:List VT) (b0:Int) (b1:Bool) (b2:List Int) (b3:Int) (b4:ByteArray) (ys:List VT) (A2:Option Addr) (c2:Nat) (A5:Option Addr) (c5:Nat) (B2:Option Addr) (d2:Nat) (B5:Option Addr) (d5:Nat) (w:World) (H1:Hid (VR w (.agg #[.int .i64 a0, .bool a1, .slice A2 a2.length c2, .int .u64 a3, .string a4, .slice A5 xs.length c5]) ⟨a0,a1,a2,a3,a4,xs⟩)) (H2:Hid (VR w (.agg #[.int .i64 b0, .bool b1, .slice B2 b2.length d2, .int .u64 b3, .string b4, .slice B5 ys.length d5]) ⟨b0,b1,b2,b3,b4,ys⟩)) (hn1:isNum ⟨a0,a1,a2,a3,a4,xs⟩=false) (en:(a0==b0)=false):Calls Tryz.prog 30 #[.agg #[.int .i64 a0, .bool a1, .slice A2 a2.length c2, .int .u64 a3, .string a4, .slice A5 xs.length c5], .agg #[.int .i64 b0, .bool b1, .slice B2 b2.length d2, .int .u64 b3, .string b4, .slice B5 ys.length d5]] w fun e w'=>e= .returned (.bool false)∧Below w.heap.size w w':=by
 have HN1:Hid (∀W,Below w.heap.size w W→Calls Tryz.prog 31 #[.agg #[.int .i64 a0, .bool a1, .slice A2 a2.length c2, .int .u64 a3, .string a4, .slice A5 xs.length c5]] W fun e W'=>e= .returned (.bool false)∧Below W.heap.size W W'):=Lib.hid fun W hW=>by have h:=number_c _ ⟨a0,a1,a2,a3,a4,xs⟩ W (H1.out.below hW);rw[hn1] at h;exact h
 obtain⟨W,hW⟩: ∃W,W=(w.alloc (.cells #[.int .i64 a0, .bool a1, .slice A2 a2.length c2, .int .u64 a3, .string a4, .slice A5 xs.length c5] 26)).alloc (.cells #[.int .i64 b0, .bool b1, .slice B2 b2.length d2, .int .u64 b3, .string b4, .slice B5 ys.length d5] 26):=⟨_,rfl⟩
 have HT:Hid (TB w #[.int .i64 a0, .bool a1, .slice A2 a2.length c2, .int .u64 a3, .string a4, .slice A5 xs.length c5] #[.int .i64 b0, .bool b1, .slice B2 b2.length d2, .int .u64 b3, .string b4, .slice B5 ys.length d5] W):=by rw[hW];exact Lib.hid (tb_start w _ _)
 clear hn1 H1 H2
 go_enter Tryz.func30,Tryz.ntmps30
 go_wp2_with fail
 rw[←hW]
 clear hW
 obtain⟨x0,x1,x2,x3,x4,x5⟩:=cells6 HT.out.b1
 obtain⟨y0,y1,y2,y3,y4,y5⟩:=cells6 HT.out.b2
 go_wp2_with (first|(go_at_call 31;(with_reducible refine(HN1.out _ HT.out.low).mono ?_);rintro e w1 ⟨rfl,hbw⟩;(replace HT:=Lib.hid (HT.out.below hbw));clear x0 x1 x2 x3 x4 x5 y0 y1 y2 y3 y4 y5;obtain⟨x0,x1,x2,x3,x4,x5⟩:=cells6 HT.out.b1;obtain⟨y0,y1,y2,y3,y4,y5⟩:=cells6 HT.out.b2;clear hbw))
 go_ret
 exact⟨rfl,HT.out.low⟩
set_option maxRecDepth 100000 in
set_option maxHeartbeats 1000000 in
theorem teKindB (a0:Int) (a1:Bool) (a2:List Int) (a3:Int) (a4:ByteArray) (xs:List VT) (b0:Int) (b1:Bool) (b2:List Int) (b3:Int) (b4:ByteArray) (ys:List VT) (A2:Option Addr) (c2:Nat) (A5:Option Addr) (c5:Nat) (B2:Option Addr) (d2:Nat) (B5:Option Addr) (d5:Nat) (w:World) (H1:Hid (VR w (.agg #[.int .i64 a0, .bool a1, .slice A2 a2.length c2, .int .u64 a3, .string a4, .slice A5 xs.length c5]) ⟨a0,a1,a2,a3,a4,xs⟩)) (H2:Hid (VR w (.agg #[.int .i64 b0, .bool b1, .slice B2 b2.length d2, .int .u64 b3, .string b4, .slice B5 ys.length d5]) ⟨b0,b1,b2,b3,b4,ys⟩)) (hn1:isNum ⟨a0,a1,a2,a3,a4,xs⟩=true) (hn2:isNum ⟨b0,b1,b2,b3,b4,ys⟩=false) (en:(a0==b0)=false):Calls Tryz.prog 30 #[.agg #[.int .i64 a0, .bool a1, .slice A2 a2.length c2, .int .u64 a3, .string a4, .slice A5 xs.length c5], .agg #[.int .i64 b0, .bool b1, .slice B2 b2.length d2, .int .u64 b3, .string b4, .slice B5 ys.length d5]] w fun e w'=>e= .returned (.bool false)∧Below w.heap.size w w':=by
 have HN1:Hid (∀W,Below w.heap.size w W→Calls Tryz.prog 31 #[.agg #[.int .i64 a0, .bool a1, .slice A2 a2.length c2, .int .u64 a3, .string a4, .slice A5 xs.length c5]] W fun e W'=>e= .returned (.bool true)∧Below W.heap.size W W'):=Lib.hid fun W hW=>by have h:=number_c _ ⟨a0,a1,a2,a3,a4,xs⟩ W (H1.out.below hW);rw[hn1] at h;exact h
 have HN2:Hid (∀W,Below w.heap.size w W→Calls Tryz.prog 31 #[.agg #[.int .i64 b0, .bool b1, .slice B2 b2.length d2, .int .u64 b3, .string b4, .slice B5 ys.length d5]] W fun e W'=>e= .returned (.bool false)∧Below W.heap.size W W'):=Lib.hid fun W hW=>by have h:=number_c _ ⟨b0,b1,b2,b3,b4,ys⟩ W (H2.out.below hW);rw[hn2] at h;exact h
 obtain⟨W,hW⟩: ∃W,W=(w.alloc (.cells #[.int .i64 a0, .bool a1, .slice A2 a2.length c2, .int .u64 a3, .string a4, .slice A5 xs.length c5] 26)).alloc (.cells #[.int .i64 b0, .bool b1, .slice B2 b2.length d2, .int .u64 b3, .string b4, .slice B5 ys.length d5] 26):=⟨_,rfl⟩
 have HT:Hid (TB w #[.int .i64 a0, .bool a1, .slice A2 a2.length c2, .int .u64 a3, .string a4, .slice A5 xs.length c5] #[.int .i64 b0, .bool b1, .slice B2 b2.length d2, .int .u64 b3, .string b4, .slice B5 ys.length d5] W):=by rw[hW];exact Lib.hid (tb_start w _ _)
 clear hn1 hn2 H1 H2
 go_enter Tryz.func30,Tryz.ntmps30
 go_wp2_with fail
 rw[←hW]
 clear hW
 obtain⟨x0,x1,x2,x3,x4,x5⟩:=cells6 HT.out.b1
 obtain⟨y0,y1,y2,y3,y4,y5⟩:=cells6 HT.out.b2
 go_wp2_with (first|(go_at_call 31;(with_reducible refine(HN1.out _ HT.out.low).mono ?_);rintro e w1 ⟨rfl,hbw⟩;(replace HT:=Lib.hid (HT.out.below hbw));clear x0 x1 x2 x3 x4 x5 y0 y1 y2 y3 y4 y5;obtain⟨x0,x1,x2,x3,x4,x5⟩:=cells6 HT.out.b1;obtain⟨y0,y1,y2,y3,y4,y5⟩:=cells6 HT.out.b2;clear hbw)|(go_at_call 31;(with_reducible refine(HN2.out _ HT.out.low).mono ?_);rintro e w1 ⟨rfl,hbw⟩;(replace HT:=Lib.hid (HT.out.below hbw));clear x0 x1 x2 x3 x4 x5 y0 y1 y2 y3 y4 y5;obtain⟨x0,x1,x2,x3,x4,x5⟩:=cells6 HT.out.b1;obtain⟨y0,y1,y2,y3,y4,y5⟩:=cells6 HT.out.b2;clear hbw))
 go_ret
 exact⟨rfl,HT.out.low⟩
set_option maxRecDepth 100000 in
set_option maxHeartbeats 1000000 in
theorem teLen (a1:Bool) (a2:List Int) (a3:Int) (a4:ByteArray) (xs:List VT) (b0:Int) (b1:Bool) (b2:List Int) (b3:Int) (b4:ByteArray) (ys:List VT) (A2:Option Addr) (c2:Nat) (A5:Option Addr) (c5:Nat) (B2:Option Addr) (d2:Nat) (B5:Option Addr) (d5:Nat) (w:World) (H1:Hid (VR w (.agg #[.int .i64 b0, .bool a1, .slice A2 a2.length c2, .int .u64 a3, .string a4, .slice A5 xs.length c5]) ⟨b0,a1,a2,a3,a4,xs⟩)) (H2:Hid (VR w (.agg #[.int .i64 b0, .bool b1, .slice B2 b2.length d2, .int .u64 b3, .string b4, .slice B5 ys.length d5]) ⟨b0,b1,b2,b3,b4,ys⟩)) (hn1:isNum ⟨b0,a1,a2,a3,a4,xs⟩=false) (en: ¬(xs.length:Int)=ys.length):Calls Tryz.prog 30 #[.agg #[.int .i64 b0, .bool a1, .slice A2 a2.length c2, .int .u64 a3, .string a4, .slice A5 xs.length c5], .agg #[.int .i64 b0, .bool b1, .slice B2 b2.length d2, .int .u64 b3, .string b4, .slice B5 ys.length d5]] w fun e w'=>e= .returned (.bool false)∧Below w.heap.size w w':=by
 have HN1:Hid (∀W,Below w.heap.size w W→Calls Tryz.prog 31 #[.agg #[.int .i64 b0, .bool a1, .slice A2 a2.length c2, .int .u64 a3, .string a4, .slice A5 xs.length c5]] W fun e W'=>e= .returned (.bool false)∧Below W.heap.size W W'):=Lib.hid fun W hW=>by have h:=number_c _ ⟨b0,a1,a2,a3,a4,xs⟩ W (H1.out.below hW);rw[hn1] at h;exact h
 obtain⟨W,hW⟩: ∃W,W=(w.alloc (.cells #[.int .i64 b0, .bool a1, .slice A2 a2.length c2, .int .u64 a3, .string a4, .slice A5 xs.length c5] 26)).alloc (.cells #[.int .i64 b0, .bool b1, .slice B2 b2.length d2, .int .u64 b3, .string b4, .slice B5 ys.length d5] 26):=⟨_,rfl⟩
 have HT:Hid (TB w #[.int .i64 b0, .bool a1, .slice A2 a2.length c2, .int .u64 a3, .string a4, .slice A5 xs.length c5] #[.int .i64 b0, .bool b1, .slice B2 b2.length d2, .int .u64 b3, .string b4, .slice B5 ys.length d5] W):=by rw[hW];exact Lib.hid (tb_start w _ _)
 have en2:(((xs.length:Int))==(ys.length:Int))=false:=by simpa using en
 clear hn1 H1 H2
 go_enter Tryz.func30,Tryz.ntmps30
 go_wp2_with fail
 rw[←hW]
 clear hW
 obtain⟨x0,x1,x2,x3,x4,x5⟩:=cells6 HT.out.b1
 obtain⟨y0,y1,y2,y3,y4,y5⟩:=cells6 HT.out.b2
 go_wp2_with (first|(go_at_call 31;(with_reducible refine(HN1.out _ HT.out.low).mono ?_);rintro e w1 ⟨rfl,hbw⟩;(replace HT:=Lib.hid (HT.out.below hbw));clear x0 x1 x2 x3 x4 x5 y0 y1 y2 y3 y4 y5;obtain⟨x0,x1,x2,x3,x4,x5⟩:=cells6 HT.out.b1;obtain⟨y0,y1,y2,y3,y4,y5⟩:=cells6 HT.out.b2;clear hbw))
 go_ret
 exact⟨rfl,HT.out.low⟩
set_option maxRecDepth 100000 in
set_option maxHeartbeats 1000000 in
theorem teNone (a1:Bool) (a2:List Int) (a3:Int) (a4:ByteArray) (xs:List VT) (b0:Int) (b1:Bool) (b2:List Int) (b3:Int) (b4:ByteArray) (ys:List VT) (A2:Option Addr) (c2:Nat) (A5:Option Addr) (c5:Nat) (B2:Option Addr) (d2:Nat) (B5:Option Addr) (d5:Nat) (w:World) (H1:Hid (VR w (.agg #[.int .i64 b0, .bool a1, .slice A2 a2.length c2, .int .u64 a3, .string a4, .slice A5 xs.length c5]) ⟨b0,a1,a2,a3,a4,xs⟩)) (H2:Hid (VR w (.agg #[.int .i64 b0, .bool b1, .slice B2 b2.length d2, .int .u64 b3, .string b4, .slice B5 ys.length d5]) ⟨b0,b1,b2,b3,b4,ys⟩)) (hn1:isNum ⟨b0,a1,a2,a3,a4,xs⟩=false) (ek:(b0==0)=true) (el:(xs.length:Int)=ys.length):Calls Tryz.prog 30 #[.agg #[.int .i64 b0, .bool a1, .slice A2 a2.length c2, .int .u64 a3, .string a4, .slice A5 xs.length c5], .agg #[.int .i64 b0, .bool b1, .slice B2 b2.length d2, .int .u64 b3, .string b4, .slice B5 ys.length d5]] w fun e w'=>e= .returned (.bool true)∧Below w.heap.size w w':=by
 have HN1:Hid (∀W,Below w.heap.size w W→Calls Tryz.prog 31 #[.agg #[.int .i64 b0, .bool a1, .slice A2 a2.length c2, .int .u64 a3, .string a4, .slice A5 xs.length c5]] W fun e W'=>e= .returned (.bool false)∧Below W.heap.size W W'):=Lib.hid fun W hW=>by have h:=number_c _ ⟨b0,a1,a2,a3,a4,xs⟩ W (H1.out.below hW);rw[hn1] at h;exact h
 obtain⟨W,hW⟩: ∃W,W=(w.alloc (.cells #[.int .i64 b0, .bool a1, .slice A2 a2.length c2, .int .u64 a3, .string a4, .slice A5 xs.length c5] 26)).alloc (.cells #[.int .i64 b0, .bool b1, .slice B2 b2.length d2, .int .u64 b3, .string b4, .slice B5 ys.length d5] 26):=⟨_,rfl⟩
 have HT:Hid (TB w #[.int .i64 b0, .bool a1, .slice A2 a2.length c2, .int .u64 a3, .string a4, .slice A5 xs.length c5] #[.int .i64 b0, .bool b1, .slice B2 b2.length d2, .int .u64 b3, .string b4, .slice B5 ys.length d5] W):=by rw[hW];exact Lib.hid (tb_start w _ _)
 clear hn1 H1 H2
 go_enter Tryz.func30,Tryz.ntmps30
 go_wp2_with fail
 rw[←hW]
 clear hW
 obtain⟨x0,x1,x2,x3,x4,x5⟩:=cells6 HT.out.b1
 obtain⟨y0,y1,y2,y3,y4,y5⟩:=cells6 HT.out.b2
 go_wp2_with (first|(go_at_call 31;(with_reducible refine(HN1.out _ HT.out.low).mono ?_);rintro e w1 ⟨rfl,hbw⟩;(replace HT:=Lib.hid (HT.out.below hbw));clear x0 x1 x2 x3 x4 x5 y0 y1 y2 y3 y4 y5;obtain⟨x0,x1,x2,x3,x4,x5⟩:=cells6 HT.out.b1;obtain⟨y0,y1,y2,y3,y4,y5⟩:=cells6 HT.out.b2;clear hbw))
 go_ret
 exact⟨rfl,HT.out.low⟩
set_option maxRecDepth 100000 in
set_option maxHeartbeats 1000000 in
theorem teBool (a1:Bool) (a2:List Int) (a3:Int) (a4:ByteArray) (xs:List VT) (b0:Int) (b1:Bool) (b2:List Int) (b3:Int) (b4:ByteArray) (ys:List VT) (A2:Option Addr) (c2:Nat) (A5:Option Addr) (c5:Nat) (B2:Option Addr) (d2:Nat) (B5:Option Addr) (d5:Nat) (w:World) (H1:Hid (VR w (.agg #[.int .i64 b0, .bool a1, .slice A2 a2.length c2, .int .u64 a3, .string a4, .slice A5 xs.length c5]) ⟨b0,a1,a2,a3,a4,xs⟩)) (H2:Hid (VR w (.agg #[.int .i64 b0, .bool b1, .slice B2 b2.length d2, .int .u64 b3, .string b4, .slice B5 ys.length d5]) ⟨b0,b1,b2,b3,b4,ys⟩)) (hn1:isNum ⟨b0,a1,a2,a3,a4,xs⟩=false) (ek:(b0==0)=false) (em:(b0==1)=true) (el:(xs.length:Int)=ys.length):Calls Tryz.prog 30 #[.agg #[.int .i64 b0, .bool a1, .slice A2 a2.length c2, .int .u64 a3, .string a4, .slice A5 xs.length c5], .agg #[.int .i64 b0, .bool b1, .slice B2 b2.length d2, .int .u64 b3, .string b4, .slice B5 ys.length d5]] w fun e w'=>e= .returned (.bool (a3==b3))∧Below w.heap.size w w':=by
 have HN1:Hid (∀W,Below w.heap.size w W→Calls Tryz.prog 31 #[.agg #[.int .i64 b0, .bool a1, .slice A2 a2.length c2, .int .u64 a3, .string a4, .slice A5 xs.length c5]] W fun e W'=>e= .returned (.bool false)∧Below W.heap.size W W'):=Lib.hid fun W hW=>by have h:=number_c _ ⟨b0,a1,a2,a3,a4,xs⟩ W (H1.out.below hW);rw[hn1] at h;exact h
 obtain⟨W,hW⟩: ∃W,W=(w.alloc (.cells #[.int .i64 b0, .bool a1, .slice A2 a2.length c2, .int .u64 a3, .string a4, .slice A5 xs.length c5] 26)).alloc (.cells #[.int .i64 b0, .bool b1, .slice B2 b2.length d2, .int .u64 b3, .string b4, .slice B5 ys.length d5] 26):=⟨_,rfl⟩
 have HT:Hid (TB w #[.int .i64 b0, .bool a1, .slice A2 a2.length c2, .int .u64 a3, .string a4, .slice A5 xs.length c5] #[.int .i64 b0, .bool b1, .slice B2 b2.length d2, .int .u64 b3, .string b4, .slice B5 ys.length d5] W):=by rw[hW];exact Lib.hid (tb_start w _ _)
 clear hn1 H1 H2
 go_enter Tryz.func30,Tryz.ntmps30
 go_wp2_with fail
 rw[←hW]
 clear hW
 obtain⟨x0,x1,x2,x3,x4,x5⟩:=cells6 HT.out.b1
 obtain⟨y0,y1,y2,y3,y4,y5⟩:=cells6 HT.out.b2
 go_wp2_with (first|(go_at_call 31;(with_reducible refine(HN1.out _ HT.out.low).mono ?_);rintro e w1 ⟨rfl,hbw⟩;(replace HT:=Lib.hid (HT.out.below hbw));clear x0 x1 x2 x3 x4 x5 y0 y1 y2 y3 y4 y5;obtain⟨x0,x1,x2,x3,x4,x5⟩:=cells6 HT.out.b1;obtain⟨y0,y1,y2,y3,y4,y5⟩:=cells6 HT.out.b2;clear hbw))
 go_ret
 exact⟨rfl,HT.out.low⟩
set_option maxRecDepth 100000 in
set_option maxHeartbeats 1000000 in
theorem teSet (a1:Bool) (a2:List Int) (a3:Int) (a4:ByteArray) (xs:List VT) (b0:Int) (b1:Bool) (b2:List Int) (b3:Int) (b4:ByteArray) (ys:List VT) (A2:Option Addr) (c2:Nat) (A5:Option Addr) (c5:Nat) (B2:Option Addr) (d2:Nat) (B5:Option Addr) (d5:Nat) (w:World) (H1:Hid (VR w (.agg #[.int .i64 b0, .bool a1, .slice A2 a2.length c2, .int .u64 a3, .string a4, .slice A5 xs.length c5]) ⟨b0,a1,a2,a3,a4,xs⟩)) (H2:Hid (VR w (.agg #[.int .i64 b0, .bool b1, .slice B2 b2.length d2, .int .u64 b3, .string b4, .slice B5 ys.length d5]) ⟨b0,b1,b2,b3,b4,ys⟩)) (hn1:isNum ⟨b0,a1,a2,a3,a4,xs⟩=false) (E:VT→VT→Bool) (ek:(b0==0)=false) (em:(b0==1)=false) (e8:(b0==8)=false) (e9:(b0==9)=true) (el:(xs.length:Int)=ys.length) (HW:Hid (∀W,Below w.heap.size w W→Calls Tryz.prog 66 #[.agg #[.int .i64 b0, .bool a1, .slice A2 a2.length c2, .int .u64 a3, .string a4, .slice A5 xs.length c5], .agg #[.int .i64 b0, .bool b1, .slice B2 b2.length d2, .int .u64 b3, .string b4, .slice B5 ys.length d5]] W fun e W'=>e= .returned (.bool (xs.all (fun k=>(findV E ys 1 k).isSome)))∧Below W.heap.size W W')):Calls Tryz.prog 30 #[.agg #[.int .i64 b0, .bool a1, .slice A2 a2.length c2, .int .u64 a3, .string a4, .slice A5 xs.length c5], .agg #[.int .i64 b0, .bool b1, .slice B2 b2.length d2, .int .u64 b3, .string b4, .slice B5 ys.length d5]] w fun e w'=>e= .returned (.bool (xs.all (fun k=>(findV E ys 1 k).isSome)))∧Below w.heap.size w w':=by
 have HN1:Hid (∀W,Below w.heap.size w W→Calls Tryz.prog 31 #[.agg #[.int .i64 b0, .bool a1, .slice A2 a2.length c2, .int .u64 a3, .string a4, .slice A5 xs.length c5]] W fun e W'=>e= .returned (.bool false)∧Below W.heap.size W W'):=Lib.hid fun W hW=>by have h:=number_c _ ⟨b0,a1,a2,a3,a4,xs⟩ W (H1.out.below hW);rw[hn1] at h;exact h
 obtain⟨W,hW⟩: ∃W,W=(w.alloc (.cells #[.int .i64 b0, .bool a1, .slice A2 a2.length c2, .int .u64 a3, .string a4, .slice A5 xs.length c5] 26)).alloc (.cells #[.int .i64 b0, .bool b1, .slice B2 b2.length d2, .int .u64 b3, .string b4, .slice B5 ys.length d5] 26):=⟨_,rfl⟩
 have HT:Hid (TB w #[.int .i64 b0, .bool a1, .slice A2 a2.length c2, .int .u64 a3, .string a4, .slice A5 xs.length c5] #[.int .i64 b0, .bool b1, .slice B2 b2.length d2, .int .u64 b3, .string b4, .slice B5 ys.length d5] W):=by rw[hW];exact Lib.hid (tb_start w _ _)
 obtain⟨r,hr⟩: ∃r,xs.all (fun k=>(findV E ys 1 k).isSome)=r:=⟨_,rfl⟩
 rw[hr] at HW⊢
 clear hr hn1 H1 H2
 go_enter Tryz.func30,Tryz.ntmps30
 go_wp2_with fail
 rw[←hW]
 clear hW
 obtain⟨x0,x1,x2,x3,x4,x5⟩:=cells6 HT.out.b1
 obtain⟨y0,y1,y2,y3,y4,y5⟩:=cells6 HT.out.b2
 go_wp2_with (first|(go_at_call 31;(with_reducible refine(HN1.out _ HT.out.low).mono ?_);rintro e w1 ⟨rfl,hbw⟩;(replace HT:=Lib.hid (HT.out.below hbw));clear x0 x1 x2 x3 x4 x5 y0 y1 y2 y3 y4 y5;obtain⟨x0,x1,x2,x3,x4,x5⟩:=cells6 HT.out.b1;obtain⟨y0,y1,y2,y3,y4,y5⟩:=cells6 HT.out.b2;clear hbw)|(go_at_call 66;(with_reducible refine(HW.out _ HT.out.low).mono ?_);rintro e w1 ⟨rfl,hbw⟩;(replace HT:=Lib.hid (HT.out.below hbw));clear x0 x1 x2 x3 x4 x5 y0 y1 y2 y3 y4 y5;obtain⟨x0,x1,x2,x3,x4,x5⟩:=cells6 HT.out.b1;obtain⟨y0,y1,y2,y3,y4,y5⟩:=cells6 HT.out.b2;clear hbw))
 go_ret
 exact⟨rfl,HT.out.low⟩
set_option maxRecDepth 100000 in
set_option maxHeartbeats 1000000 in
theorem teRest (a1:Bool) (a2:List Int) (a3:Int) (a4:ByteArray) (xs:List VT) (b0:Int) (b1:Bool) (b2:List Int) (b3:Int) (b4:ByteArray) (ys:List VT) (A2:Option Addr) (c2:Nat) (A5:Option Addr) (c5:Nat) (B2:Option Addr) (d2:Nat) (B5:Option Addr) (d5:Nat) (w:World) (H1:Hid (VR w (.agg #[.int .i64 b0, .bool a1, .slice A2 a2.length c2, .int .u64 a3, .string a4, .slice A5 xs.length c5]) ⟨b0,a1,a2,a3,a4,xs⟩)) (H2:Hid (VR w (.agg #[.int .i64 b0, .bool b1, .slice B2 b2.length d2, .int .u64 b3, .string b4, .slice B5 ys.length d5]) ⟨b0,b1,b2,b3,b4,ys⟩)) (hn1:isNum ⟨b0,a1,a2,a3,a4,xs⟩=false) (E:VT→VT→Bool) (ek:(b0==0)=false) (em:(b0==1)=false) (e8:(b0==8)=false) (e9:(b0==9)=false) (ELN:Hid (xs.length=ys.length)) (el:(((xs.length:Int)) !=(ys.length:Int))=false) (hmany:xs.length≤1000000) (g1:kV.C w A5 xs.length xs) (g2:kV.C w B5 ys.length ys) (HE:Hid (∀W,Below w.heap.size w W→ ∀i (hi:i<xs.length) (hi2:i<ys.length) u v',VR W u xs[i]→VR W v' ys[i]→Calls Tryz.prog 30 #[u,v'] W fun e W'=>e= .returned (.bool (E xs[i] ys[i]))∧Below W.heap.size W W')):Calls Tryz.prog 30 #[.agg #[.int .i64 b0, .bool a1, .slice A2 a2.length c2, .int .u64 a3, .string a4, .slice A5 xs.length c5], .agg #[.int .i64 b0, .bool b1, .slice B2 b2.length d2, .int .u64 b3, .string b4, .slice B5 ys.length d5]] w fun e w'=>e= .returned (.bool (all2 E xs ys&&a4==b4))∧Below w.heap.size w w':=by
 have HN1:Hid (∀W,Below w.heap.size w W→Calls Tryz.prog 31 #[.agg #[.int .i64 b0, .bool a1, .slice A2 a2.length c2, .int .u64 a3, .string a4, .slice A5 xs.length c5]] W fun e W'=>e= .returned (.bool false)∧Below W.heap.size W W'):=Lib.hid fun W hW=>by have h:=number_c _ ⟨b0,a1,a2,a3,a4,xs⟩ W (H1.out.below hW);rw[hn1] at h;exact h
 obtain⟨W,hW⟩: ∃W,W=(w.alloc (.cells #[.int .i64 b0, .bool a1, .slice A2 a2.length c2, .int .u64 a3, .string a4, .slice A5 xs.length c5] 26)).alloc (.cells #[.int .i64 b0, .bool b1, .slice B2 b2.length d2, .int .u64 b3, .string b4, .slice B5 ys.length d5] 26):=⟨_,rfl⟩
 have HT:Hid (TB w #[.int .i64 b0, .bool a1, .slice A2 a2.length c2, .int .u64 a3, .string a4, .slice A5 xs.length c5] #[.int .i64 b0, .bool b1, .slice B2 b2.length d2, .int .u64 b3, .string b4, .slice B5 ys.length d5] W):=by rw[hW];exact Lib.hid (tb_start w _ _)
 have HK:=Lib.hid (fun i hi=>kid_at g1 i hi rfl)
 have HL:=Lib.hid (fun i hi=>kid_at g2 i hi rfl)
 clear hn1 H1 H2 g1 g2
 go_enter Tryz.func30,Tryz.ntmps30
 go_wp2_with fail
 rw[←hW]
 clear hW
 obtain⟨x0,x1,x2,x3,x4,x5⟩:=cells6 HT.out.b1
 obtain⟨y0,y1,y2,y3,y4,y5⟩:=cells6 HT.out.b2
 go_wp2_with (first|(go_at_call 31;(with_reducible refine(HN1.out _ HT.out.low).mono ?_);rintro e w1 ⟨rfl,hbw⟩;(replace HT:=Lib.hid (HT.out.below hbw));clear x0 x1 x2 x3 x4 x5 y0 y1 y2 y3 y4 y5;obtain⟨x0,x1,x2,x3,x4,x5⟩:=cells6 HT.out.b1;obtain⟨y0,y1,y2,y3,y4,y5⟩:=cells6 HT.out.b2;clear hbw))
 clear x0 x1 x2 x3 x4 x5 y0 y1 y2 y3 y4 y5
 go_loopw [7] (fun i wr=> ∃j:Nat,j≤xs.length∧i= .int .i64 (j:Int)∧Hid (all2 E xs ys=all2 E (xs.drop j) (ys.drop j))∧Hid (TB w #[.int .i64 b0, .bool a1, .slice A2 a2.length c2, .int .u64 a3, .string a4, .slice A5 xs.length c5] #[.int .i64 b0, .bool b1, .slice B2 b2.length d2, .int .u64 b3, .string b4, .slice B5 ys.length d5] wr)) (fun i _=>xs.length-(intOf i).toNat)
 case atStart=>exact⟨0,Nat.zero_le _,rfl,Lib.hid rfl,HT⟩
 case round=>
  clear HT
  obtain⟨j,hj,rfl,HQ,HT⟩:=hrel
  by_cases hlt:j<xs.length
  ·have hlt2:j<ys.length:=by rw[←ELN.out];exact hlt
   have hB:=HT.out.low
   obtain⟨bp,op,Cp,ep,Dp,fp,rfl,hbp,k0,k1,k2,k3,k4,k5,hVp⟩:=HK.out j hlt
   have x0:=(hB.cell (p:=⟨bp,op+j*6,none⟩) hbp).trans k0
   have x1:=(hB.cell (p:=⟨bp,op+j*6+1,none⟩) hbp).trans k1
   have x2:=(hB.cell (p:=⟨bp,op+j*6+2,none⟩) hbp).trans k2
   have x3:=(hB.cell (p:=⟨bp,op+j*6+3,none⟩) hbp).trans k3
   have x4:=(hB.cell (p:=⟨bp,op+j*6+4,none⟩) hbp).trans k4
   have x5:=(hB.cell (p:=⟨bp,op+j*6+5,none⟩) hbp).trans k5
   clear k0 k1 k2 k3 k4 k5
   obtain⟨bq,oq,Cq,eq,Dq,fq,rfl,hbq,k0,k1,k2,k3,k4,k5,hVq⟩:=HL.out j hlt2
   have y0:=(hB.cell (p:=⟨bq,oq+j*6,none⟩) hbq).trans k0
   have y1:=(hB.cell (p:=⟨bq,oq+j*6+1,none⟩) hbq).trans k1
   have y2:=(hB.cell (p:=⟨bq,oq+j*6+2,none⟩) hbq).trans k2
   have y3:=(hB.cell (p:=⟨bq,oq+j*6+3,none⟩) hbq).trans k3
   have y4:=(hB.cell (p:=⟨bq,oq+j*6+4,none⟩) hbq).trans k4
   have y5:=(hB.cell (p:=⟨bq,oq+j*6+5,none⟩) hbq).trans k5
   clear k0 k1 k2 k3 k4 k5
   have z5:=(cells6 HT.out.b1).2.2.2.2.2
   have y9:=(cells6 HT.out.b2).2.2.2.2.2
   have HEj:Hid (∀W,Below w.heap.size w W→Calls Tryz.prog 30 #[.agg #[.int .i64 xs[j].f0, .bool xs[j].f1, .slice Cp xs[j].f2.length ep, .int .u64 xs[j].f3, .string xs[j].f4, .slice Dp xs[j].f5.length fp], .agg #[.int .i64 ys[j].f0, .bool ys[j].f1, .slice Cq ys[j].f2.length eq, .int .u64 ys[j].f3, .string ys[j].f4, .slice Dq ys[j].f5.length fq]] W fun e W'=>e= .returned (.bool (E xs[j] ys[j]))∧Below W.heap.size W W'):=Lib.hid fun W hW=>HE.out W hW j hlt hlt2 _ _ (hVp.below hW) (hVq.below hW)
   clear hVp hVq hB
   have HS:=Lib.hid (all2_step E xs ys j hlt hlt2)
   obtain⟨r,hr⟩: ∃r,E xs[j] ys[j]=r:=⟨_,rfl⟩
   rw[hr] at HEj HS
   clear hr
   go_upto_region 23 with fail
   go_region_held3 (fun W=>((W.cell? ⟨bp,op+j*6,none⟩=some (.int .i64 xs[j].f0)∧W.cell? ⟨bp,op+j*6+1,none⟩=some (.bool xs[j].f1)∧W.cell? ⟨bp,op+j*6+2,none⟩=some (.slice Cp xs[j].f2.length ep)∧W.cell? ⟨bp,op+j*6+3,none⟩=some (.int .u64 xs[j].f3)∧W.cell? ⟨bp,op+j*6+4,none⟩=some (.string xs[j].f4)∧W.cell? ⟨bp,op+j*6+5,none⟩=some (.slice Dp xs[j].f5.length fp))∧(W.cell? ⟨bq,oq+j*6,none⟩=some (.int .i64 ys[j].f0)∧W.cell? ⟨bq,oq+j*6+1,none⟩=some (.bool ys[j].f1)∧W.cell? ⟨bq,oq+j*6+2,none⟩=some (.slice Cq ys[j].f2.length eq)∧W.cell? ⟨bq,oq+j*6+3,none⟩=some (.int .u64 ys[j].f3)∧W.cell? ⟨bq,oq+j*6+4,none⟩=some (.string ys[j].f4)∧W.cell? ⟨bq,oq+j*6+5,none⟩=some (.slice Dq ys[j].f5.length fq)))∧W.cell? ⟨w.heap.size,5,none⟩=some (.slice (some ⟨bp,op,none⟩) xs.length c5)∧W.cell? ⟨w.heap.size+1,5,none⟩=some (.slice (some ⟨bq,oq,none⟩) ys.length d5)) (first|(with_reducible exact⟨⟨⟨r0,r1,r2,r3,r4,r5⟩,⟨s0,s1,s2,s3,s4,s5⟩⟩,q,p⟩)|(with_reducible exact⟨⟨⟨x0,x1,x2,x3,x4,x5⟩,⟨y0,y1,y2,y3,y4,y5⟩⟩,z5,y9⟩)|exact⟨⟨⟨x0,x1,x2,x3,x4,x5⟩,⟨y0,y1,y2,y3,y4,y5⟩⟩,z5,y9⟩) (first
    |(go_at_call 30;(with_reducible refine(HEj.out _ (by first|(with_reducible exact HT.out.low.drew)|exact HT.out.low.drew)).mono ?_);rintro e w1 ⟨rfl,hb1⟩;have HT1:Hid (TB w #[.int .i64 b0, .bool a1, .slice A2 a2.length c2, .int .u64 a3, .string a4, .slice (some ⟨bp,op,none⟩) xs.length c5] #[.int .i64 b0, .bool b1, .slice B2 b2.length d2, .int .u64 b3, .string b4, .slice (some ⟨bq,oq,none⟩) ys.length d5] w1):=Lib.hid ((HT.out.below ((Below.refl _ _).drew)).below hb1);have hbwp:=Nat.lt_of_lt_of_le hbp HT.out.low.size;have hbwq:=Nat.lt_of_lt_of_le hbq HT.out.low.size;have r0:=(hb1.cell (p:=⟨bp,op+j*6,none⟩) hbwp).trans x0;have r1:=(hb1.cell (p:=⟨bp,op+j*6+1,none⟩) hbwp).trans x1;have r2:=(hb1.cell (p:=⟨bp,op+j*6+2,none⟩) hbwp).trans x2;have r3:=(hb1.cell (p:=⟨bp,op+j*6+3,none⟩) hbwp).trans x3;have r4:=(hb1.cell (p:=⟨bp,op+j*6+4,none⟩) hbwp).trans x4;have r5:=(hb1.cell (p:=⟨bp,op+j*6+5,none⟩) hbwp).trans x5;have s0:=(hb1.cell (p:=⟨bq,oq+j*6,none⟩) hbwq).trans y0;have s1:=(hb1.cell (p:=⟨bq,oq+j*6+1,none⟩) hbwq).trans y1;have s2:=(hb1.cell (p:=⟨bq,oq+j*6+2,none⟩) hbwq).trans y2;have s3:=(hb1.cell (p:=⟨bq,oq+j*6+3,none⟩) hbwq).trans y3;have s4:=(hb1.cell (p:=⟨bq,oq+j*6+4,none⟩) hbwq).trans y4;have s5:=(hb1.cell (p:=⟨bq,oq+j*6+5,none⟩) hbwq).trans y5;have q:=(cells6 HT1.out.b1).2.2.2.2.2;have p:=(cells6 HT1.out.b2).2.2.2.2.2;clear hb1))
   clear x0 x1 x2 x3 x4 x5 y0 y1 y2 y3 y4 y5 z5 y9 r0 r1 r2 r3 r4 r5 s0 s1 s2 s3 s4 s5 q p
   cases r
   ·go_wp2
    go_ret
    exact⟨by rw[HQ.out,HS.out];rfl,HT1.out.low⟩
   ·go_wp2
    go_roundw
    case rel=>
     exact⟨j+1,by omega,by go_num,Lib.hid (by rw[HQ.out,HS.out];rfl),HT1⟩
    case measure=>simp[intOf];omega
  ·have hjn:j=xs.length:=by omega
   subst hjn
   have hall:=HQ.out.trans (all2_end E xs ys xs.length (by omega))
   obtain⟨x0,x1,x2,x3,x4,x5⟩:=cells6 HT.out.b1
   obtain⟨y0,y1,y2,y3,y4,y5⟩:=cells6 HT.out.b2
   go_wp2
   go_ret
   exact⟨by rw[hall,Bool.true_and];first|rfl|(rw[←beqL];rfl),HT.out.low⟩
def pairQ (E:VT→VT→Bool) (ys:List VT) (k v:VT):Bool:=match findV E ys 2 k with|none=>false|some j=>(match ys[j+1]? with|none=>false|some u=>E v u)
theorem pair_none {E:VT→VT→Bool} {ys:List VT} {k v:VT} (h:findV E ys 2 k=none):pairQ E ys k v=false:=by unfold pairQ;rw[h]
theorem pair_some {E:VT→VT→Bool} {ys:List VT} {k v:VT} {j:Nat} (h:findV E ys 2 k=some j) (hj:j+1<ys.length):pairQ E ys k v=E v ys[j+1]:=by unfold pairQ;rw[h];simp only;rw[List.getElem?_eq_getElem hj]
theorem dictBy_go (e:VT→VT→Bool) (ys xs:List VT) (i:Nat) (h:i+1<xs.length):dictBy e ys (xs.drop i)=(pairQ e ys xs[i] xs[i+1]&&dictBy e ys (xs.drop (i+2))):=dictBy_step e ys xs i h
set_option maxRecDepth 100000 in
set_option maxHeartbeats 1000000 in
theorem teDict (a1:Bool) (a2:List Int) (a3:Int) (a4:ByteArray) (xs:List VT) (b0:Int) (b1:Bool) (b2:List Int) (b3:Int) (b4:ByteArray) (ys:List VT) (A2:Option Addr) (c2:Nat) (A5:Option Addr) (c5:Nat) (B2:Option Addr) (d2:Nat) (B5:Option Addr) (d5:Nat) (w:World) (H1:Hid (VR w (.agg #[.int .i64 b0, .bool a1, .slice A2 a2.length c2, .int .u64 a3, .string a4, .slice A5 xs.length c5]) ⟨b0,a1,a2,a3,a4,xs⟩)) (H2:Hid (VR w (.agg #[.int .i64 b0, .bool b1, .slice B2 b2.length d2, .int .u64 b3, .string b4, .slice B5 ys.length d5]) ⟨b0,b1,b2,b3,b4,ys⟩)) (hn1:isNum ⟨b0,a1,a2,a3,a4,xs⟩=false) (E:VT→VT→Bool) (ek:(b0==0)=false) (em:(b0==1)=false) (e8:(b0==8)=true) (ELN:Hid (xs.length=ys.length∧xs.length%2=0)) (el:(((xs.length:Int)) !=(ys.length:Int))=false) (hmany:xs.length≤1000000) (hmany2:ys.length≤1000000) (g1:kV.C w A5 xs.length xs) (g2:kV.C w B5 ys.length ys) (HF:Hid (∀W,Below w.heap.size w W→ ∀i (hi:i<xs.length) u,VR W u xs[i]→Calls Tryz.prog 53 #[.slice B5 ys.length d5, .int .i64 2,u] W fun e W'=>e= .returned (.int .i64 (findR E ys 2 xs[i]))∧Below W.heap.size W W')) (HE:Hid (∀W,Below w.heap.size w W→ ∀i (hi:i<xs.length) j (hj:j<ys.length) u v',VR W u xs[i]→VR W v' ys[j]→Calls Tryz.prog 30 #[u,v'] W fun e W'=>e= .returned (.bool (E xs[i] ys[j]))∧Below W.heap.size W W')):Calls Tryz.prog 30 #[.agg #[.int .i64 b0, .bool a1, .slice A2 a2.length c2, .int .u64 a3, .string a4, .slice A5 xs.length c5], .agg #[.int .i64 b0, .bool b1, .slice B2 b2.length d2, .int .u64 b3, .string b4, .slice B5 ys.length d5]] w fun e w'=>e= .returned (.bool (dictBy E ys xs))∧Below w.heap.size w w':=by
 have HN1:Hid (∀W,Below w.heap.size w W→Calls Tryz.prog 31 #[.agg #[.int .i64 b0, .bool a1, .slice A2 a2.length c2, .int .u64 a3, .string a4, .slice A5 xs.length c5]] W fun e W'=>e= .returned (.bool false)∧Below W.heap.size W W'):=Lib.hid fun W hW=>by have h:=number_c _ ⟨b0,a1,a2,a3,a4,xs⟩ W (H1.out.below hW);rw[hn1] at h;exact h
 obtain⟨W,hW⟩: ∃W,W=(w.alloc (.cells #[.int .i64 b0, .bool a1, .slice A2 a2.length c2, .int .u64 a3, .string a4, .slice A5 xs.length c5] 26)).alloc (.cells #[.int .i64 b0, .bool b1, .slice B2 b2.length d2, .int .u64 b3, .string b4, .slice B5 ys.length d5] 26):=⟨_,rfl⟩
 have HT:Hid (TB w #[.int .i64 b0, .bool a1, .slice A2 a2.length c2, .int .u64 a3, .string a4, .slice A5 xs.length c5] #[.int .i64 b0, .bool b1, .slice B2 b2.length d2, .int .u64 b3, .string b4, .slice B5 ys.length d5] W):=by rw[hW];exact Lib.hid (tb_start w _ _)
 have HK:=Lib.hid (fun i hi=>kid_at g1 i hi rfl)
 have HL:=Lib.hid (fun i hi=>kid_at g2 i hi rfl)
 clear hn1 H1 H2 g1 g2
 go_enter Tryz.func30,Tryz.ntmps30
 go_wp2_with fail
 rw[←hW]
 clear hW
 obtain⟨x0,x1,x2,x3,x4,x5⟩:=cells6 HT.out.b1
 obtain⟨y0,y1,y2,y3,y4,y5⟩:=cells6 HT.out.b2
 go_wp2_with (first|(go_at_call 31;(with_reducible refine(HN1.out _ HT.out.low).mono ?_);rintro e w1 ⟨rfl,hbw⟩;(replace HT:=Lib.hid (HT.out.below hbw));clear x0 x1 x2 x3 x4 x5 y0 y1 y2 y3 y4 y5;obtain⟨x0,x1,x2,x3,x4,x5⟩:=cells6 HT.out.b1;obtain⟨y0,y1,y2,y3,y4,y5⟩:=cells6 HT.out.b2;clear hbw))
 clear x0 x1 x2 x3 x4 x5 y0 y1 y2 y3 y4 y5
 go_loopw [5] (fun i wr=> ∃j:Nat,j≤xs.length∧i= .int .i64 (j:Int)∧Hid (j%2=0)∧Hid (dictBy E ys xs=dictBy E ys (xs.drop j))∧Hid (TB w #[.int .i64 b0, .bool a1, .slice A2 a2.length c2, .int .u64 a3, .string a4, .slice A5 xs.length c5] #[.int .i64 b0, .bool b1, .slice B2 b2.length d2, .int .u64 b3, .string b4, .slice B5 ys.length d5] wr)) (fun i _=>xs.length-(intOf i).toNat)
 case atStart=>exact⟨0,Nat.zero_le _,rfl,Lib.hid rfl,Lib.hid rfl,HT⟩
 case round=>
  clear HT
  obtain⟨j,hj,rfl,HP,HQ,HT⟩:=hrel
  by_cases hlt:j+1<xs.length
  ·have hB:=HT.out.low
   have hjl:j<xs.length:=by omega
   obtain⟨bp,op,Cp,ep,Dp,fp,rfl,hbp,k0,k1,k2,k3,k4,k5,hVp⟩:=HK.out j hjl
   have x0:=(hB.cell (p:=⟨bp,op+j*6,none⟩) hbp).trans k0
   have x1:=(hB.cell (p:=⟨bp,op+j*6+1,none⟩) hbp).trans k1
   have x2:=(hB.cell (p:=⟨bp,op+j*6+2,none⟩) hbp).trans k2
   have x3:=(hB.cell (p:=⟨bp,op+j*6+3,none⟩) hbp).trans k3
   have x4:=(hB.cell (p:=⟨bp,op+j*6+4,none⟩) hbp).trans k4
   have x5:=(hB.cell (p:=⟨bp,op+j*6+5,none⟩) hbp).trans k5
   clear k0 k1 k2 k3 k4 k5
   have z5:=(cells6 HT.out.b1).2.2.2.2.2
   have y9:=(cells6 HT.out.b2).2.2.2.2.2
   have HFj:Hid (∀W,Below w.heap.size w W→Calls Tryz.prog 53 #[.slice B5 ys.length d5, .int .i64 2, .agg #[.int .i64 xs[j].f0, .bool xs[j].f1, .slice Cp xs[j].f2.length ep, .int .u64 xs[j].f3, .string xs[j].f4, .slice Dp xs[j].f5.length fp]] W fun e W'=>e= .returned (.int .i64 (findR E ys 2 xs[j]))∧Below W.heap.size W W'):=Lib.hid fun W hW=>HF.out W hW j (by omega) _ (hVp.below hW)
   clear hVp hB
   have HS:=Lib.hid (dictBy_go E ys xs j hlt)
   obtain⟨r,hr⟩: ∃r,findR E ys 2 xs[j]=r:=⟨_,rfl⟩
   have HR:=Lib.hid hr
   rw[hr] at HFj
   clear hr
   go_upto_region 14 with fail
   go_region_held3 (fun W=>((W.cell? ⟨bp,op+j*6,none⟩=some (.int .i64 xs[j].f0)∧W.cell? ⟨bp,op+j*6+1,none⟩=some (.bool xs[j].f1)∧W.cell? ⟨bp,op+j*6+2,none⟩=some (.slice Cp xs[j].f2.length ep)∧W.cell? ⟨bp,op+j*6+3,none⟩=some (.int .u64 xs[j].f3)∧W.cell? ⟨bp,op+j*6+4,none⟩=some (.string xs[j].f4)∧W.cell? ⟨bp,op+j*6+5,none⟩=some (.slice Dp xs[j].f5.length fp)))∧W.cell? ⟨w.heap.size,5,none⟩=some (.slice (some ⟨bp,op,none⟩) xs.length c5)∧W.cell? ⟨w.heap.size+1,5,none⟩=some (.slice B5 ys.length d5)) (first|(with_reducible exact⟨⟨r0,r1,r2,r3,r4,r5⟩,q,p⟩)|(with_reducible exact⟨⟨x0,x1,x2,x3,x4,x5⟩,z5,y9⟩)|exact⟨⟨x0,x1,x2,x3,x4,x5⟩,z5,y9⟩) (first
    |(go_at_call 53;(with_reducible refine(HFj.out _ (by first|(with_reducible exact HT.out.low.drew)|exact HT.out.low.drew)).mono ?_);rintro e w1 ⟨rfl,hb1⟩;have HT1:Hid (TB w #[.int .i64 b0, .bool a1, .slice A2 a2.length c2, .int .u64 a3, .string a4, .slice (some ⟨bp,op,none⟩) xs.length c5] #[.int .i64 b0, .bool b1, .slice B2 b2.length d2, .int .u64 b3, .string b4, .slice B5 ys.length d5] w1):=Lib.hid ((HT.out.below ((Below.refl _ _).drew)).below hb1);have hbwp:=Nat.lt_of_lt_of_le hbp HT.out.low.size;have r0:=(hb1.cell (p:=⟨bp,op+j*6,none⟩) hbwp).trans x0;have r1:=(hb1.cell (p:=⟨bp,op+j*6+1,none⟩) hbwp).trans x1;have r2:=(hb1.cell (p:=⟨bp,op+j*6+2,none⟩) hbwp).trans x2;have r3:=(hb1.cell (p:=⟨bp,op+j*6+3,none⟩) hbwp).trans x3;have r4:=(hb1.cell (p:=⟨bp,op+j*6+4,none⟩) hbwp).trans x4;have r5:=(hb1.cell (p:=⟨bp,op+j*6+5,none⟩) hbwp).trans x5;have q:=(cells6 HT1.out.b1).2.2.2.2.2;have p:=(cells6 HT1.out.b2).2.2.2.2.2;clear hb1))
   clear x0 x1 x2 x3 x4 x5 z5 y9 r0 r1 r2 r3 r4 r5 q p HT
   obtain⟨o,ho⟩: ∃o,findV E ys 2 xs[j]=o:=⟨_,rfl⟩
   cases o with
   |none=>
    obtain rfl:r= -1:=by rw[←HR.out];exact findR_none ho
    have HZ:=Lib.hid (pair_none (v:=xs[j+1]) ho)
    clear ho
    go_upto_region 15 with fail
    go_region
    go_wp2
    go_ret
    exact⟨by rw[HQ.out,HS.out,HZ.out];rfl,HT1.out.low.drew⟩
   |some m=>
    obtain rfl:r=(m:Int):=by rw[←HR.out];exact findR_some ho
    obtain⟨m2,hm,hm2,hq⟩:=findV_some (by decide) ho
    have hm1:m+1<ys.length:=by have:=ELN.out;omega
    have HZ:=Lib.hid (pair_some (v:=xs[j+1]) ho hm1)
    clear ho hm2 hq hm
    have hB:=HT1.out.low
    have hlt':=hlt
    obtain⟨j1,hj1⟩: ∃j1,j1=j+1:=⟨_,rfl⟩
    obtain⟨m1,hmm⟩: ∃m1,m1=m+1:=⟨_,rfl⟩
    have hjx:j1<xs.length:=by omega
    have hmx:m1<ys.length:=by omega
    have e1:(j:Int)+1=(j1:Int):=by omega
    have e2:(m:Int)+1=(m1:Int):=by omega
    obtain⟨bs,os,Cs,es,Ds,fs,esx,hbs,k0,k1,k2,k3,k4,k5,hVs⟩:=HK.out j1 hjx
    have x0:=(hB.cell (p:=⟨bs,os+j1*6,none⟩) hbs).trans k0
    have x1:=(hB.cell (p:=⟨bs,os+j1*6+1,none⟩) hbs).trans k1
    have x2:=(hB.cell (p:=⟨bs,os+j1*6+2,none⟩) hbs).trans k2
    have x3:=(hB.cell (p:=⟨bs,os+j1*6+3,none⟩) hbs).trans k3
    have x4:=(hB.cell (p:=⟨bs,os+j1*6+4,none⟩) hbs).trans k4
    have x5:=(hB.cell (p:=⟨bs,os+j1*6+5,none⟩) hbs).trans k5
    clear k0 k1 k2 k3 k4 k5
    obtain⟨bq,oq,Cq,eq,Dq,fq,rfl,hbq,k0,k1,k2,k3,k4,k5,hVq⟩:=HL.out m1 hmx
    have y0:=(hB.cell (p:=⟨bq,oq+m1*6,none⟩) hbq).trans k0
    have y1:=(hB.cell (p:=⟨bq,oq+m1*6+1,none⟩) hbq).trans k1
    have y2:=(hB.cell (p:=⟨bq,oq+m1*6+2,none⟩) hbq).trans k2
    have y3:=(hB.cell (p:=⟨bq,oq+m1*6+3,none⟩) hbq).trans k3
    have y4:=(hB.cell (p:=⟨bq,oq+m1*6+4,none⟩) hbq).trans k4
    have y5:=(hB.cell (p:=⟨bq,oq+m1*6+5,none⟩) hbq).trans k5
    clear k0 k1 k2 k3 k4 k5
    obtain⟨rfl,rfl⟩:bp=bs∧op=os:=by cases esx;exact⟨rfl,rfl⟩
    clear esx
    have z5:=(cells6 HT1.out.b1).2.2.2.2.2
    have y9:=(cells6 HT1.out.b2).2.2.2.2.2
    have HEj:Hid (∀W,Below w.heap.size w W→Calls Tryz.prog 30 #[.agg #[.int .i64 xs[j1].f0, .bool xs[j1].f1, .slice Cs xs[j1].f2.length es, .int .u64 xs[j1].f3, .string xs[j1].f4, .slice Ds xs[j1].f5.length fs], .agg #[.int .i64 ys[m1].f0, .bool ys[m1].f1, .slice Cq ys[m1].f2.length eq, .int .u64 ys[m1].f3, .string ys[m1].f4, .slice Dq ys[m1].f5.length fq]] W fun e W'=>e= .returned (.bool (E xs[j1] ys[m1]))∧Below W.heap.size W W'):=Lib.hid fun W hW=>HE.out W hW j1 hjx m1 hmx _ _ (hVs.below hW) (hVq.below hW)
    clear hVs hVq hB
    obtain⟨r,hr⟩: ∃r,E xs[j1] ys[m1]=r:=⟨_,rfl⟩
    have HV:Hid (pairQ E ys xs[j] xs[j+1]=r):=Lib.hid (by rw[←hr,HZ.out];subst hj1 hmm;rfl)
    rw[hr] at HEj
    have HJ1:=Lib.hid hj1
    clear hr HZ HFj HF HE HK HL hj1 hmm
    have eg:decide ((m:Int)<0)=false:=by simp
    have e3:IntKind.i64.wrap (j1:Int)=(j1:Int):=IntWalk.i64_in _ (by omega)
    have e4:IntKind.i64.wrap (m1:Int)=(m1:Int):=IntWalk.i64_in _ (by omega)
    have e5:IntKind.i64.wrap ((j:Int)+1)=(j1:Int):=by rw[e1];exact e3
    have e6:IntKind.i64.wrap ((m:Int)+1)=(m1:Int):=by rw[e2];exact e4
    have hjy:(j1:Int)<(xs.length:Int):=by omega
    have hmy:(m1:Int)<(ys.length:Int):=by omega
    have hm0:m<ys.length:=by omega
    go_upto_region 15 with fail
    go_region_held3 (fun W=>((W.cell? ⟨bp,op+j1*6,none⟩=some (.int .i64 xs[j1].f0)∧W.cell? ⟨bp,op+j1*6+1,none⟩=some (.bool xs[j1].f1)∧W.cell? ⟨bp,op+j1*6+2,none⟩=some (.slice Cs xs[j1].f2.length es)∧W.cell? ⟨bp,op+j1*6+3,none⟩=some (.int .u64 xs[j1].f3)∧W.cell? ⟨bp,op+j1*6+4,none⟩=some (.string xs[j1].f4)∧W.cell? ⟨bp,op+j1*6+5,none⟩=some (.slice Ds xs[j1].f5.length fs))∧(W.cell? ⟨bq,oq+m1*6,none⟩=some (.int .i64 ys[m1].f0)∧W.cell? ⟨bq,oq+m1*6+1,none⟩=some (.bool ys[m1].f1)∧W.cell? ⟨bq,oq+m1*6+2,none⟩=some (.slice Cq ys[m1].f2.length eq)∧W.cell? ⟨bq,oq+m1*6+3,none⟩=some (.int .u64 ys[m1].f3)∧W.cell? ⟨bq,oq+m1*6+4,none⟩=some (.string ys[m1].f4)∧W.cell? ⟨bq,oq+m1*6+5,none⟩=some (.slice Dq ys[m1].f5.length fq)))∧W.cell? ⟨w.heap.size,5,none⟩=some (.slice (some ⟨bp,op,none⟩) xs.length c5)∧W.cell? ⟨w.heap.size+1,5,none⟩=some (.slice (some ⟨bq,oq,none⟩) ys.length d5)) (first|(with_reducible exact⟨⟨⟨r0,r1,r2,r3,r4,r5⟩,⟨s0,s1,s2,s3,s4,s5⟩⟩,q,p⟩)|(with_reducible exact⟨⟨⟨x0,x1,x2,x3,x4,x5⟩,⟨y0,y1,y2,y3,y4,y5⟩⟩,z5,y9⟩)|exact⟨⟨⟨x0,x1,x2,x3,x4,x5⟩,⟨y0,y1,y2,y3,y4,y5⟩⟩,z5,y9⟩) (first
     |(go_at_call 30;(with_reducible refine(HEj.out _ (by first|(with_reducible exact HT1.out.low.drew)|exact HT1.out.low.drew)).mono ?_);rintro e w2 ⟨rfl,hb1⟩;have HT2:Hid (TB w #[.int .i64 b0, .bool a1, .slice A2 a2.length c2, .int .u64 a3, .string a4, .slice (some ⟨bp,op,none⟩) xs.length c5] #[.int .i64 b0, .bool b1, .slice B2 b2.length d2, .int .u64 b3, .string b4, .slice (some ⟨bq,oq,none⟩) ys.length d5] w2):=Lib.hid ((HT1.out.below ((Below.refl _ _).drew)).below hb1);have hbwp:=Nat.lt_of_lt_of_le hbp HT1.out.low.size;have hbwq:=Nat.lt_of_lt_of_le hbq HT1.out.low.size;have r0:=(hb1.cell (p:=⟨bp,op+j1*6,none⟩) hbwp).trans x0;have r1:=(hb1.cell (p:=⟨bp,op+j1*6+1,none⟩) hbwp).trans x1;have r2:=(hb1.cell (p:=⟨bp,op+j1*6+2,none⟩) hbwp).trans x2;have r3:=(hb1.cell (p:=⟨bp,op+j1*6+3,none⟩) hbwp).trans x3;have r4:=(hb1.cell (p:=⟨bp,op+j1*6+4,none⟩) hbwp).trans x4;have r5:=(hb1.cell (p:=⟨bp,op+j1*6+5,none⟩) hbwp).trans x5;have s0:=(hb1.cell (p:=⟨bq,oq+m1*6,none⟩) hbwq).trans y0;have s1:=(hb1.cell (p:=⟨bq,oq+m1*6+1,none⟩) hbwq).trans y1;have s2:=(hb1.cell (p:=⟨bq,oq+m1*6+2,none⟩) hbwq).trans y2;have s3:=(hb1.cell (p:=⟨bq,oq+m1*6+3,none⟩) hbwq).trans y3;have s4:=(hb1.cell (p:=⟨bq,oq+m1*6+4,none⟩) hbwq).trans y4;have s5:=(hb1.cell (p:=⟨bq,oq+m1*6+5,none⟩) hbwq).trans y5;have q:=(cells6 HT2.out.b1).2.2.2.2.2;have p:=(cells6 HT2.out.b2).2.2.2.2.2;clear hb1))
    clear x0 x1 x2 x3 x4 x5 y0 y1 y2 y3 y4 y5 z5 y9 r0 r1 r2 r3 r4 r5 s0 s1 s2 s3 s4 s5 q p
    cases r
    ·go_wp2
     go_ret
     exact⟨by rw[HQ.out,HS.out,HV.out];rfl,HT2.out.low⟩
    ·go_wp2
     go_roundw
     case rel=>
      exact⟨j+2,by omega,by go_num,Lib.hid (by have:=HP.out;omega),Lib.hid (by rw[HQ.out,HS.out,HV.out];rfl),HT2⟩
     case measure=>simp[intOf];omega
  ·have hjn: ¬j<xs.length:=by have:=HP.out;have:=ELN.out;omega
   have hall:=HQ.out.trans (dictBy_end E ys xs j hjn)
   have z5:=(cells6 HT.out.b1).2.2.2.2.2
   go_wp2
   go_ret
   exact⟨by rw[hall];rfl,HT.out.low⟩
theorem treeEq_c: ∀(n:Nat) (x y:VT) (v1 v2:Value) (w:World),VR w v1 x→VR w v2 y→Ok n x→Ok n y→
 Calls Tryz.prog 30 #[v1,v2] w fun e w'=>e= .returned (.bool (eqV n x y))∧Below w.heap.size w w'
 |0,x,y,v1,v2,w,h1,h2,o1,o2=>o1.elim
 |n+1,x,y,v1,v2,w,h1,h2,o1,o2=>by
  have ih:=treeEq_c n
  have HV1:=h1
  have HV2:=h2
  obtain⟨A2,c2,A5,c5,rfl,p1,p2,p3,g1⟩:=h1.open
  obtain⟨B2,d2,B5,d5,rfl,q1,q2,q3,g2⟩:=h2.open
  obtain⟨l1,k1⟩:=o1
  obtain⟨l2,k2⟩:=o2
  obtain⟨a0,a1,a2,a3,a4,xs⟩:=x
  obtain⟨b0,b1,b2,b3,b4,ys⟩:=y
  dsimp only at*
  have m1:xs.length≤1000000:=l1.many
  have m2:ys.length≤1000000:=l2.many
  have H1:=Lib.hid HV1
  have H2:=Lib.hid HV2
  by_cases hn1:isNum ⟨a0,a1,a2,a3,a4,xs⟩=true
  ·by_cases hn2:isNum ⟨b0,b1,b2,b3,b4,ys⟩=true
   ·have:=teNum a0 a1 a2 a3 a4 xs b0 b1 b2 b3 b4 ys A2 c2 A5 c5 B2 d2 B5 d5 w H1 H2 hn1 hn2 l1 l2
    rw[show eqV (n+1) ⟨a0,a1,a2,a3,a4,xs⟩ ⟨b0,b1,b2,b3,b4,ys⟩=(ncmp ⟨a0,a1,a2,a3,a4,xs⟩ ⟨b0,b1,b2,b3,b4,ys⟩==0) by unfold eqV;rw[if_pos (by rw[hn1,hn2];rfl)]]
    exact this
   ·have hn2':isNum ⟨b0,b1,b2,b3,b4,ys⟩=false:=by simpa using hn2
    have hab:a0≠b0:=by
     rintro rfl
     simp[isNum] at hn1 hn2'
     omega
    have:=teKindB a0 a1 a2 a3 a4 xs b0 b1 b2 b3 b4 ys A2 c2 A5 c5 B2 d2 B5 d5 w H1 H2 hn1 hn2' (by simpa using hab)
    rw[show eqV (n+1) ⟨a0,a1,a2,a3,a4,xs⟩ ⟨b0,b1,b2,b3,b4,ys⟩=false by unfold eqV;rw[if_neg (by rw[hn2'];simp),if_pos (Or.inl hab)]]
    exact this
  ·have hn1':isNum ⟨a0,a1,a2,a3,a4,xs⟩=false:=by simpa using hn1
   have hE:eqV (n+1) ⟨a0,a1,a2,a3,a4,xs⟩ ⟨b0,b1,b2,b3,b4,ys⟩=(if a0≠b0∨xs.length≠ys.length then false else if a0=0 then true else if a0=1 then a3==b3 else if a0=8 then dictBy (eqV n) ys xs else if a0=9 then xs.all (fun k=>(findV (eqV n) ys 1 k).isSome) else all2 (eqV n) xs ys&&a4==b4):=by
    rw[eqV,if_neg (by rw[hn1'];simp)]
   rw[hE]
   by_cases hab:a0=b0
   ·subst hab
    by_cases hl:xs.length=ys.length
    ·rw[if_neg (by simp[hl])]
     have hlb:(((xs.length:Int)) !=(ys.length:Int))=false:=by simp[hl]
     have hli:(xs.length:Int)=ys.length:=by omega
     by_cases e0:a0=0
     ·rw[if_pos e0]
      exact teNone a1 a2 a3 a4 xs a0 b1 b2 b3 b4 ys A2 c2 A5 c5 B2 d2 B5 d5 w H1 H2 hn1' (by simpa using e0) hli
     ·rw[if_neg e0]
      have k0:(a0==0)=false:=by simpa using e0
      by_cases e1:a0=1
      ·rw[if_pos e1]
       exact teBool a1 a2 a3 a4 xs a0 b1 b2 b3 b4 ys A2 c2 A5 c5 B2 d2 B5 d5 w H1 H2 hn1' k0 (by simpa using e1) hli
      ·rw[if_neg e1]
       have k1':(a0==1)=false:=by simpa using e1
       by_cases e8:a0=8
       ·rw[if_pos e8]
        refine teDict a1 a2 a3 a4 xs a0 b1 b2 b3 b4 ys A2 c2 A5 c5 B2 d2 B5 d5 w H1 H2 hn1' (eqV n) k0 k1' (by simpa using e8) (Lib.hid ⟨hl,l1.pairs e8⟩) hlb m1 m2 g1 g2 ?_ ?_
        ·exact Lib.hid fun W hW i hi u hu=>treeFind_c (eqV n) B5 d5 ys xs[i] u 2 W (Kd.C_below g2 hW) hu m2 (Or.inr rfl) fun W2 hW2 j hj u2 v2 s1 s2=>ih _ _ _ _ W2 s1 s2 (k2 _ (List.getElem_mem hj)) (k1 _ (List.getElem_mem hi))
        ·exact Lib.hid fun W hW i hi j hj u v' s1 s2=>ih _ _ _ _ W s1 s2 (k1 _ (List.getElem_mem hi)) (k2 _ (List.getElem_mem hj))
       ·rw[if_neg e8]
        have k8:(a0==8)=false:=by simpa using e8
        by_cases e9:a0=9
        ·rw[if_pos e9]
         refine teSet a1 a2 a3 a4 xs a0 b1 b2 b3 b4 ys A2 c2 A5 c5 B2 d2 B5 d5 w H1 H2 hn1' (eqV n) k0 k1' k8 (by simpa using e9) hli ?_
         exact Lib.hid fun W hW=>treeWithin_c (eqV n) ⟨a0,a1,a2,a3,a4,xs⟩ ⟨a0,b1,b2,b3,b4,ys⟩ _ _ W (HV1.below hW) (HV2.below hW) m1 m2 fun W2 hW2 j hj i hi u2 v2 s1 s2=>ih _ _ _ _ W2 s1 s2 (k2 _ (List.getElem_mem hj)) (k1 _ (List.getElem_mem hi))
        ·rw[if_neg e9]
         refine teRest a1 a2 a3 a4 xs a0 b1 b2 b3 b4 ys A2 c2 A5 c5 B2 d2 B5 d5 w H1 H2 hn1' (eqV n) k0 k1' k8 (by simpa using e9) (Lib.hid hl) hlb m1 g1 g2 ?_
         exact Lib.hid fun W hW i hi hi2 u v' s1 s2=>ih _ _ _ _ W s1 s2 (k1 _ (List.getElem_mem hi)) (k2 _ (List.getElem_mem hi2))
    ·rw[if_pos (Or.inr hl)]
     exact teLen a1 a2 a3 a4 xs a0 b1 b2 b3 b4 ys A2 c2 A5 c5 B2 d2 B5 d5 w H1 H2 hn1' (by omega)
   ·rw[if_pos (Or.inl hab)]
    exact teKindA a0 a1 a2 a3 a4 xs b0 b1 b2 b3 b4 ys A2 c2 A5 c5 B2 d2 B5 d5 w H1 H2 hn1' (by simpa using hab)
def SC (y:VT):Prop:= ∃s,Canon s y∧s.fit
def Box (y:VT):Prop:=y.f1=false∧y.f2=[]∧y.f3=0∧y.f4=⟨#[]⟩
def HkT:Nat→VT→Prop
 |0,y=>y.f0<6
 |n+1,y=>y.f0<6∨(y.f0=7∧ ∀k∈y.f5,HkT n k)
abbrev EQ:VT→VT→Bool:=eqV 9
def Dist (step:Nat) (ys:List VT):Prop:= ∀a b (h:b*step<ys.length) (hab:a<b),EQ (ys[a*step]'(Nat.lt_of_le_of_lt (Nat.mul_le_mul_right _ (Nat.le_of_lt hab)) h)) ys[b*step]=false
def DictOk (n:Nat) (ys:List VT):Prop:=ys.length%2=0∧ys.length≤16∧(∀i (h:i*2<ys.length),HkT n ys[i*2])∧Dist 2 ys
def SetOk (n:Nat) (ys:List VT):Prop:=ys.length≤8∧(∀k∈ys,HkT n k)∧Dist 1 ys
def CT:Nat→VT→Prop
 |0,y=>SC y
 |n+1,y=>SC y∨(Box y∧y.f5.length≤16∧(∀k∈y.f5,CT n k)∧(y.f0=6∨y.f0=7∨(y.f0=8∧DictOk n y.f5)∨(y.f0=9∧SetOk n y.f5)))
theorem SC.kind {y:VT} (h:SC y):0≤y.f0∧y.f0<6:=by
 obtain⟨s,h,_⟩:=h
 rw[h.kind]
 cases s<;>simp[Sca.kind]
theorem SC.leaf {y:VT} (h:SC y):Leaf y:=h.choose_spec.1.leaf
theorem SC.kids {y:VT} (h:SC y):y.f5=[]:=h.choose_spec.1.kids
theorem SC.hk {y:VT} (h:SC y): ∀n,HkT n y
 |0=>h.kind.2
 |n+1=>Or.inl h.kind.2
theorem CT.sc {y:VT} (h:SC y): ∀n,CT n y
 |0=>h
 |n+1=>Or.inl h
theorem CT.isSC {n:Nat} {y:VT} (h:CT n y) (hk:y.f0<6):SC y:=by
 cases n with
 |zero=>exact h
 |succ n=>
  rcases h with h|⟨_,_,_,h⟩
  ·exact h
  ·exfalso;omega
theorem CT.isBox {n:Nat} {y:VT} (h:CT n y) (hk: ¬y.f0<6): ∃m,n=m+1∧Box y∧y.f5.length≤16∧(∀k∈y.f5,CT m k)∧(y.f0=6∨y.f0=7∨(y.f0=8∧DictOk m y.f5)∨(y.f0=9∧SetOk m y.f5)):=by
 cases n with
 |zero=>exact absurd (SC.kind h).2 hk
 |succ n=>
  rcases h with h|h
  ·exact absurd (SC.kind h).2 hk
  ·exact⟨n,rfl,h⟩
theorem Ok.up: ∀{n:Nat} {x:VT},Ok n x→Ok (n+1) x
 |0,_,h=>h.elim
 |n+1,_,h=>⟨h.1,fun k hk=>Ok.up (h.2 k hk)⟩
theorem Ok.le {n m:Nat} {x:VT} (h:Ok n x) (hm:n≤m):Ok m x:=by
 induction hm with
 |refl=>exact h
 |step _ ih=>exact ih.up
theorem CT.leaf {n:Nat} {y:VT} (h:CT n y):Leaf y:=by
 by_cases hk:y.f0<6
 ·exact(h.isSC hk).leaf
 ·obtain⟨m,rfl,⟨h1,h2,h3,h4⟩,hl,_,hc⟩:=h.isBox hk
  refine⟨fun e=>by omega,by rw[h3];decide,by omega,⟨(by rw[h2];intro x hx;cases hx),(by rw[h2];simp)⟩,by omega,fun e=>?_⟩
  rcases hc with hc|hc|⟨_,hc⟩|⟨hc,_⟩
  ·omega
  ·omega
  ·exact hc.1
  ·omega
theorem CT.ok: ∀{n:Nat} {y:VT},CT n y→Ok (n+1) y
 |0,y,h=>⟨CT.leaf (n:=0) h,fun k hk=>by rw[SC.kids h] at hk;cases hk⟩
 |n+1,y,h=>⟨h.leaf,fun k hk=>by
   rcases h with h|⟨_,_,h,_⟩
   ·rw[SC.kids h] at hk;cases hk
   ·exact(h k hk).ok⟩
theorem CT.ok9 {n:Nat} {y:VT} (h:CT n y) (hn:n≤8):Ok 9 y:=h.ok.le (by omega)
abbrev zero6:Array Value:=#[.int .i64 0, .bool false, .slice none 0 0, .int .u64 0, .string ⟨#[]⟩, .slice none 0 0]
def Free (n:Nat) (k:Nat):Prop:=k<n∨n+3≤k
structure CB (w0:World) (B:Nat) (F:Nat→Prop) (cs:Array Value) (k:Int) (out:Value) (ys:List VT) (w:World):Prop where
 b1:w.heap[w0.heap.size]?=some (.cells cs 26 (0,0))
 b2:w.heap[w0.heap.size+1]?=some (.cells zero6 26 (0,0))
 b3:w.heap[w0.heap.size+2]?=some (.cells #[.int .i64 k, .bool false, .slice none 0 0, .int .u64 0, .string ⟨#[]⟩,out] 26 (0,0))
 row:kV.R 26 w B F out ys
 hF: ∀j,F j→Free w0.heap.size j
 hN: ∀j,w0.heap.size+3≤j→F j
 far: ∀j,out.ownBlock=some j→w0.heap.size+3≤j
 low:Below w0.heap.size w0 w
theorem CB.size {w0 w:World} {B:Nat} {F:Nat→Prop} {cs:Array Value} {k:Int} {out:Value} {ys:List VT} (h:CB w0 B F cs k out ys w):w0.heap.size+3≤w.heap.size:=lt_blk h.b3
theorem CB.below {w0 w w1:World} {B:Nat} {F:Nat→Prop} {cs:Array Value} {k:Int} {out:Value} {ys:List VT} (h:CB w0 B F cs k out ys w) (hb:Below w.heap.size w w1):CB w0 B F cs k out ys w1:=
 ⟨blk_below h.b1 hb,blk_below h.b2 hb,blk_below h.b3 hb,Kd.R_below h.row hb,h.hF,h.hN,h.far,h.low.trans (hb.mono (by have:=h.size;omega))⟩
theorem CB.start (w:World) (B:Nat) (F:Nat→Prop) (cs:Array Value) (k:Int) (hF: ∀j,F j→Free w.heap.size j) (hN: ∀j,w.heap.size+3≤j→F j):CB w B F cs k (.slice none 0 0) [] (((w.alloc (.cells cs 26)).alloc (.cells zero6 26)).alloc (.cells #[.int .i64 k, .bool false, .slice none 0 0, .int .u64 0, .string ⟨#[]⟩, .slice none 0 0] 26)):=by
 refine⟨blk_alloc (blk_alloc (blk_new _ _) _) _,blk_alloc (by simpa using blk_new (w.alloc (.cells cs 26)) (.cells zero6 26)) _,by simpa using blk_new ((w.alloc (.cells cs 26)).alloc (.cells zero6 26)) _,Kd.R_nil _ _ _ _ _,hF,hN,fun j hj=>by simp[Value.ownBlock] at hj,(((Below.refl _ w).alloc (Nat.le_refl _) _).alloc (by simp) _).alloc (by simp;omega) _⟩
theorem CB.push {w0 W w1:World} {B:Nat} {F:Nat→Prop} {cs:Array Value} {k:Int} {out v1:Value} {ys ys':List VT} (h:CB w0 B F cs k out ys W) (hR:kV.R 26 w1 B F v1 ys') (hg:W.grownBy w1 out.ownBlock) (hat:v1.ownBlock=out.ownBlock∨ ∃b,v1.ownBlock=some b∧W.heap.size≤b):
 CB w0 B F cs k v1 ys' (w1.setCell ⟨w0.heap.size+2,5,none⟩ v1):=by
 have hs:=h.size
 have hne: ∀j,j<w0.heap.size+3→some j≠out.ownBlock:=fun j hj e=>by have:=h.far j e.symm;omega
 have hfar: ∀j,v1.ownBlock=some j→w0.heap.size+3≤j:=by
  intro j hj
  rcases hat with e|⟨b,e,hb⟩
  ·exact h.far j (e▸hj)
  ·rw[e] at hj
   injection hj with hj
   omega
 refine⟨blk_far (blk_grown h.b1 hg (hne _ (by omega))) (by show w0.heap.size≠w0.heap.size+2;omega) _,blk_far (blk_grown h.b2 hg (hne _ (by omega))) (by show w0.heap.size+1≠w0.heap.size+2;omega) _,?_,Kd.R_far (p:=⟨w0.heap.size+2,5,none⟩) hR (fun j hj=>by show j≠w0.heap.size+2;rcases h.hF j hj with hj|hj<;>omega) _,h.hF,h.hN,hfar,?_⟩
 ·exact blk_put (blk_grown h.b3 hg (hne _ (by omega))) 5 v1 rfl
 ·exact(h.low.grown hg (by omega) (fun j hj=>by have:=h.far j hj;omega)).setCell (by show w0.heap.size≤w0.heap.size+2;omega) _
theorem CB.done {w0 w:World} {B:Nat} {F:Nat→Prop} {cs:Array Value} {k:Int} {out:Value} {ys:List VT} (h:CB w0 B F cs k out ys w):kV.M w B F ⟨k,false,[],0,⟨#[]⟩,ys⟩ [.int .i64 k, .bool false, .slice none 0 0, .int .u64 0, .string ⟨#[]⟩,out]:=
 k26_mkM w B _ ⟨k,false,[],0,⟨#[]⟩,ys⟩ (Kd.R_nil _ _ _ _ _) h.row
theorem CB.app {w0 wr w1:World} {B:Nat} {F okk:Nat→Prop} {cs:Array Value} {k:Int} {out:Value} {ys:List VT} {y:VT} {c:List Value} (h:CB w0 B F cs k out ys wr) (hb:Below wr.heap.size wr w1) (hM:kV.M w1 B (fun j=>okk j∨wr.heap.size≤j) y c) (hk: ∀j,okk j→F j∧j<w0.heap.size) (hB:B≤w0.heap.size):
 kV.M w1 B (fun j=>okk j∨wr.heap.size≤j) y c∧(∀j,(okk j∨wr.heap.size≤j)→F j∧some j≠out.ownBlock)∧(∀j,w1.heap.size≤j→F j)∧kV.R 26 w1 B F out ys∧Below B w1 w1∧B≤w1.heap.size∧CB w0 B F cs k out ys w1:=by
 have h1:=h.below hb
 have hs:=h.size
 have hs1:=h1.size
 obtain⟨inner,ho⟩:=Kd.R_own h.row
 refine⟨hM,fun j hj=>?_,fun j hj=>h.hN j (by omega),h1.row,Below.refl _ _,by omega,h1⟩
 rcases hj with hj|hj
 ·exact⟨(hk j hj).1,fun e=>by have:=h.far j e.symm;have:=(hk j hj).2;omega⟩
 ·exact⟨h.hN j (by omega),fun e=>by have:=own_lt ho j e.symm;omega⟩
theorem kidM_at {w:World} {B:Nat} {F:Nat→Prop} {A:Option Addr} {c:Nat} {xs:List VT} (h:kV.R 26 w B F (.slice A xs.length c) xs) (i:Nat) (hi:i<xs.length):
    ∃b A2 c2 A5 c5,A=some ⟨b,0,none⟩∧b<w.heap.size∧
      w.cell? ⟨b,i*6,none⟩=some (.int .i64 xs[i].f0)∧w.cell? ⟨b,i*6+1,none⟩=some (.bool xs[i].f1)∧w.cell? ⟨b,i*6+2,none⟩=some (.slice A2 xs[i].f2.length c2)∧w.cell? ⟨b,i*6+3,none⟩=some (.int .u64 xs[i].f3)∧w.cell? ⟨b,i*6+4,none⟩=some (.string xs[i].f4)∧w.cell? ⟨b,i*6+5,none⟩=some (.slice A5 xs[i].f5.length c5)∧
      kV.M w B F xs[i] [.int .i64 xs[i].f0, .bool xs[i].f1, .slice A2 xs[i].f2.length c2, .int .u64 xs[i].f3, .string xs[i].f4, .slice A5 xs[i].f5.length c5]:=by
  rcases A with _|ad
  · obtain⟨A',c',e,_,hC⟩:=Kd.R_reads h
    cases e
    obtain⟨ad,hn,_⟩:=hC.2.2 (by omega)
    cases hn
  · obtain⟨b,rfl⟩: ∃g,ad=⟨g,0,none⟩:=by
      obtain⟨_,inner,ho,_⟩:=h
      rcases ho.2 with⟨hv,_⟩|⟨g,cap',cur,hv,_⟩
      ·cases hv
      · injection hv with ha _ _
        injection ha with ha
        exact⟨g,ha⟩
    obtain⟨cs,hcl,hM,hcc⟩:=Kd.R_get h xs[i] (i:Int) (by omega) (by omega)
    have e:xs.getD (i:Int).toNat xs[i]=xs[i]:=by
      rw[Int.toNat_natCast,List.getD_eq_getElem?_getD,List.getElem?_eq_getElem hi];rfl
    rw[e] at hM
    obtain⟨v2,v5,rfl,g2,g5⟩:=k26_openM hM
    obtain⟨A2,c2,rfl⟩:=Kd.R_slice g2
    obtain⟨A5,c5,rfl⟩:=Kd.R_slice g5
    have hsz:kV.sz=6:=rfl
    rw[hsz,Int.toNat_natCast] at hcc
    have ha: ∀j,(⟨b,0,none⟩:Addr).add j=⟨b,0+j,none⟩:=fun j=>by
      unfold Addr.add;split<;>simp_all
    simp only[ha] at hcc
    have h0':=hcc 0 _ rfl
    exact⟨b,A2,c2,A5,c5,rfl,lt_of_cell h0',by simpa using hcc 0 _ rfl,by simpa using hcc 1 _ rfl,by simpa using hcc 2 _ rfl,by simpa using hcc 3 _ rfl,by simpa using hcc 4 _ rfl,by simpa using hcc 5 _ rfl,Kd.M_mono _ (fun k hk=>hk.1) hM⟩
theorem m_shape {w:World} {B:Nat} {F:Nat→Prop} {x:VT} {cs:List Value} (h:kV.M w B F x cs): ∃A2 c2 A5 c5,cs=[.int .i64 x.f0, .bool x.f1, .slice A2 x.f2.length c2, .int .u64 x.f3, .string x.f4, .slice A5 x.f5.length c5]:=by
 obtain⟨v2,v5,rfl,g2,g5⟩:=k26_openM h
 obtain⟨A2,c2,rfl⟩:=Kd.R_slice g2
 obtain⟨A5,c5,rfl⟩:=Kd.R_slice g5
 exact⟨A2,c2,A5,c5,rfl⟩
theorem CB.drewed {w0 w:World} {B:Nat} {F:Nat→Prop} {cs:Array Value} {k:Int} {out:Value} {ys:List VT} (h:CB w0 B F cs k out ys w):CB w0 B F cs k out ys w.drew:=h.below ((Below.refl _ _).drew)
theorem CB.third {w0 W w1:World} {B:Nat} {F:Nat→Prop} {cs:Array Value} {k:Int} {out:Value} {ys:List VT} (h:CB w0 B F cs k out ys W) (hg:W.grownBy w1 out.ownBlock):w1.heap[w0.heap.size+2]?=some (.cells #[.int .i64 k, .bool false, .slice none 0 0, .int .u64 0, .string ⟨#[]⟩,out] 26 (0,0)):=
 blk_grown h.b3 hg (fun e=>by have:=h.far _ e.symm;omega)
theorem CB.keeps {w0 wr W w1:World} {B:Nat} {F:Nat→Prop} {cs:Array Value} {k:Int} {out:Value} {ys:List VT} (h:CB w0 B F cs k out ys W) (hg:W.grownBy w1 out.ownBlock) (hb:Below (w0.heap.size+2) wr W):Below (w0.heap.size+2) wr w1:=
 hb.grown hg (by have:=h.size;omega) (fun j hj=>by have:=h.far j hj;omega)
theorem sc_cut {x:VT} (h:SC x):SC ⟨x.f0,x.f1,x.f2,x.f3,x.f4.extract 0 60,x.f5⟩:=by
 obtain⟨s,hc,hf⟩:=h
 by_cases h4:x.f0=4
 ·refine⟨.str (x.f4.extract 0 60),⟨?_,hc.kids,?_,fun h1 _=>absurd h4 h1⟩,(by show(x.f4.extract 0 60).size≤2147483647;rw[ByteArray.size_extract];omega)⟩
  ·have:=hc.leaf
   exact⟨fun e=>this.int e,this.bits,this.kind,this.mag,this.many,this.pairs⟩
  ·unfold scaOf;simp[h4]
 ·by_cases h5:x.f0=5
  ·refine⟨.bytes (x.f4.extract 0 60),⟨?_,hc.kids,?_,fun _ h2=>absurd h5 h2⟩,(by show(x.f4.extract 0 60).size≤2147483647;rw[ByteArray.size_extract];omega)⟩
   ·have:=hc.leaf
    exact⟨fun e=>this.int e,this.bits,this.kind,this.mag,this.many,this.pairs⟩
   ·unfold scaOf;simp[h5]
  ·have ht:=hc.text h4 h5
   have:(⟨x.f0,x.f1,x.f2,x.f3,x.f4.extract 0 60,x.f5⟩:VT)=x:=by
    cases x
    dsimp only at*
    rw[ht];rfl
   rw[this]
   exact⟨s,hc,hf⟩
theorem cb_len {w0 w:World} {B:Nat} {F:Nat→Prop} {cs:Array Value} {k:Int} {A:Option Addr} {L M c:Nat} {ys:List VT} (h:CB w0 B F cs k (.slice A L c) ys (w.setCell ⟨w0.heap.size+2,5,none⟩ (.slice A L c))) (e:L=M):CB w0 B F cs k (.slice A M c) ys (w.setCell ⟨w0.heap.size+1+1,5,none⟩ (.slice A M c)):=by subst e;exact h
theorem CB.final {w0 w:World} {B:Nat} {F:Nat→Prop} {cs:Array Value} {k:Int} {out:Value} {ys:List VT} (h:CB w0 B F cs k out ys w) (a b c d e f:Value):
 kV.M ((((((w.setCell ⟨w0.heap.size+1,0,none⟩ a).setCell ⟨w0.heap.size+1,1,none⟩ b).setCell ⟨w0.heap.size+1,2,none⟩ c).setCell ⟨w0.heap.size+1,3,none⟩ d).setCell ⟨w0.heap.size+1,4,none⟩ e).setCell ⟨w0.heap.size+1,5,none⟩ f) B F ⟨k,false,[],0,⟨#[]⟩,ys⟩ [.int .i64 k, .bool false, .slice none 0 0, .int .u64 0, .string ⟨#[]⟩,out]∧
 Below w0.heap.size w0 ((((((w.setCell ⟨w0.heap.size+1,0,none⟩ a).setCell ⟨w0.heap.size+1,1,none⟩ b).setCell ⟨w0.heap.size+1,2,none⟩ c).setCell ⟨w0.heap.size+1,3,none⟩ d).setCell ⟨w0.heap.size+1,4,none⟩ e).setCell ⟨w0.heap.size+1,5,none⟩ f):=by
 have hne: ∀j,F j→j≠w0.heap.size+1:=fun j hj=>by rcases h.hF j hj with hj|hj<;>omega
 have hle:w0.heap.size≤w0.heap.size+1:=Nat.le_succ _
 exact⟨Kd.M_far (p:=⟨w0.heap.size+1,5,none⟩) (Kd.M_far (p:=⟨w0.heap.size+1,4,none⟩) (Kd.M_far (p:=⟨w0.heap.size+1,3,none⟩) (Kd.M_far (p:=⟨w0.heap.size+1,2,none⟩) (Kd.M_far (p:=⟨w0.heap.size+1,1,none⟩) (Kd.M_far (p:=⟨w0.heap.size+1,0,none⟩) h.done hne _) hne _) hne _) hne _) hne _) hne _,
  ((((((h.low.setCell (p:=⟨w0.heap.size+1,0,none⟩) hle _).setCell (p:=⟨w0.heap.size+1,1,none⟩) hle _).setCell (p:=⟨w0.heap.size+1,2,none⟩) hle _).setCell (p:=⟨w0.heap.size+1,3,none⟩) hle _).setCell (p:=⟨w0.heap.size+1,4,none⟩) hle _).setCell (p:=⟨w0.heap.size+1,5,none⟩) hle _)⟩
def KeyR (n B:Nat) (ok:Nat→Prop) (w:World) (e:Ending) (w':World):Prop:= ∃cs y,e= .returned (.agg (List.toArray cs))∧kV.M w' B (fun j=>ok j∨w.heap.size≤j) y cs∧CT n y∧HkT n y∧Below w.heap.size w w'
theorem keySca_end (n B:Nat) (ok:Nat→Prop) (x:VT) (cs:List Value) (w:World) {w':World} {A2 A5:Option Addr} {c2 c5:Nat} (hM:kV.M w B ok x cs) (hS:SC x) (hcs:cs=[.int .i64 x.f0, .bool x.f1, .slice A2 x.f2.length c2, .int .u64 x.f3, .string x.f4, .slice A5 x.f5.length c5]) (hb:Below w.heap.size w w'):
 KeyR n B ok w (.returned (.agg #[.int .i64 x.f0, .bool x.f1, .slice A2 x.f2.length c2, .int .u64 x.f3, .string (x.f4.extract 0 60), .slice A5 x.f5.length c5])) w':=by
 have hM2:kV.M w' B (fun j=>ok j∨w.heap.size≤j) x cs:=Kd.M_mono _ (fun j hj=>Or.inl hj) (Kd.M_below hM hb)
 obtain⟨v2,v5,e,g2,g5⟩:=k26_openM hM2
 rw[hcs] at e
 simp only[List.cons.injEq,and_true,true_and] at e
 obtain⟨rfl,rfl⟩:=e
 exact⟨_,⟨x.f0,x.f1,x.f2,x.f3,x.f4.extract 0 60,x.f5⟩,rfl,k26_mkM w' B (fun j=>ok j∨w.heap.size≤j) ⟨x.f0,x.f1,x.f2,x.f3,x.f4.extract 0 60,x.f5⟩ g2 g5,CT.sc (sc_cut hS) n,(sc_cut hS).hk n,hb⟩
theorem keySca_end2 (n B:Nat) (ok:Nat→Prop) (x:VT) (cs:List Value) (w:World) {w':World} (hM:kV.M w B ok x cs) (hS:SC x) (hb:Below w.heap.size w w'):KeyR n B ok w (.returned (.agg (List.toArray cs))) w':=
 ⟨_,x,rfl,Kd.M_mono _ (fun j hj=>Or.inl hj) (Kd.M_below hM hb),CT.sc hS n,hS.hk n,hb⟩
attribute [local go_sem] max2_int min2_int max_two min_two max_three min_three max_four min_four
set_option maxRecDepth 100000 in
set_option maxHeartbeats 1000000 in
theorem keySca_c (n B:Nat) (ok:Nat→Prop) (x:VT) (cs:List Value) (w:World) (hM:kV.M w B ok x cs) (hS:SC x):Calls Tryz.prog 52 #[.agg cs.toArray] w (KeyR n B ok w):=by
 obtain⟨v2,v5,e,g2,g5⟩:=k26_openM hM
 obtain⟨A2,c2,rfl⟩:=Kd.R_slice g2
 obtain⟨A5,c5,rfl⟩:=Kd.R_slice g5
 subst e
 have hk:x.f0<6:=hS.kind.2
 have HK0:Hid (((w.alloc (.cells #[.int .i64 x.f0, .bool x.f1, .slice A2 x.f2.length c2, .int .u64 x.f3, .string x.f4, .slice A5 x.f5.length c5] 26)).alloc (.cells zero6 26)).heap[w.heap.size]?=some (.cells #[.int .i64 x.f0, .bool x.f1, .slice A2 x.f2.length c2, .int .u64 x.f3, .string x.f4, .slice A5 x.f5.length c5] 26 (0,0))):=Lib.hid (blk_alloc (blk_new _ _) _)
 have HM:=Lib.hid hM
 have HSC:=Lib.hid hS
 clear hM hS g2 g5
 go_enter Tryz.func52,Tryz.ntmps52
 go_wp2
 ·refine bodyPost_ret (v:= .agg #[.int .i64 x.f0, .bool x.f1, .slice A2 x.f2.length c2, .int .u64 x.f3, .string (x.f4.extract 0 60), .slice A5 x.f5.length c5]) (by simp[results,Tryz.results52,go_sem]) rfl ?_
  exact keySca_end n B ok x _ w HM.out HSC.out rfl (((Below.refl _ w).alloc (Nat.le_refl _) _).alloc (by simp) _)
 ·refine bodyPost_ret (v:= .agg #[.int .i64 x.f0, .bool x.f1, .slice A2 x.f2.length c2, .int .u64 x.f3, .string x.f4, .slice A5 x.f5.length c5]) (by simp[results,Tryz.results52,go_sem]) rfl ?_
  exact keySca_end2 n B ok x _ w HM.out HSC.out (((Below.refl _ w).alloc (Nat.le_refl _) _).alloc (by simp) _)
set_option maxRecDepth 100000 in
set_option maxHeartbeats 1000000 in
theorem keyBox_c (m B:Nat) (ok:Nat→Prop) (x:VT) (cs:List Value) (w:World) (hB:B≤w.heap.size) (hM:kV.M w B ok x cs) (hk: ¬x.f0<6) (hn:x.f5.length≤16) (hks: ∀k∈x.f5,CT m k)
 (ih: ∀(x:VT) (cs:List Value) (W:World) (ok:Nat→Prop),B≤W.heap.size→kV.M W B ok x cs→CT m x→Calls Tryz.prog 52 #[.agg cs.toArray] W (KeyR m B ok W)):Calls Tryz.prog 52 #[.agg cs.toArray] w (KeyR (m+1) B ok w):=by
 obtain⟨v2,v5,e,g2,g5⟩:=k26_openM hM
 obtain⟨A2,c2,rfl⟩:=Kd.R_slice g2
 obtain⟨A5,c5,rfl⟩:=Kd.R_slice g5
 subst e
 obtain⟨a0,a1,a2,a3,a4,xs⟩:=x
 dsimp only at*
 have HKS:=Lib.hid hks
 have HKM:=Lib.hid (fun i hi=>kidM_at (Kd.R_bound g5) i hi)
 have HIH:=Lib.hid ih
 obtain⟨F,hF⟩: ∃F:Nat→Prop,F=fun j=>(ok j∧j<w.heap.size)∨w.heap.size+3≤j:=⟨_,rfl⟩
 have hF1: ∀j,F j→Free w.heap.size j:=by rw[hF];rintro j (⟨_,h⟩|h);exact Or.inl h;exact Or.inr h
 have hF2: ∀j,w.heap.size+3≤j→F j:=by rw[hF];intro j h;exact Or.inr h
 obtain⟨W0,hW0⟩: ∃W,W=(((w.alloc (.cells #[.int .i64 a0, .bool a1, .slice A2 a2.length c2, .int .u64 a3, .string a4, .slice A5 xs.length c5] 26)).alloc (.cells zero6 26)).alloc (.cells #[.int .i64 7, .bool false, .slice none 0 0, .int .u64 0, .string ⟨#[]⟩, .slice none 0 0] 26)):=⟨_,rfl⟩
 have HT0:Hid (CB w B F #[.int .i64 a0, .bool a1, .slice A2 a2.length c2, .int .u64 a3, .string a4, .slice A5 xs.length c5] 7 (.slice none 0 0) [] W0):=by rw[hW0];exact Lib.hid (CB.start w B F _ 7 hF1 hF2)
 have HFF:=Lib.hid hF
 have HBn:=Lib.hid hB
 clear hF hF1 hF2 hM g2 g5 hks ih hB
 go_enter Tryz.func52,Tryz.ntmps52
 go_wp2_with fail
 rw[←hW0]
 clear hW0
 go_loopw [4] (fun i wr=> ∃(j:Nat) (out:Value) (ys:List VT),j≤xs.length∧i= .int .i64 (j:Int)∧ys.length=j∧Hid (∀y∈ys,CT m y∧HkT m y)∧Hid (CB w B F #[.int .i64 a0, .bool a1, .slice A2 a2.length c2, .int .u64 a3, .string a4, .slice A5 xs.length c5] 7 out ys wr)) (fun i _=>xs.length-(intOf i).toNat)
 case atStart=>exact⟨0,_,[],Nat.zero_le _,rfl,rfl,Lib.hid (fun y hy=>by cases hy),HT0⟩
 case round=>
  clear HT0
  obtain⟨j,out,ys,hj,rfl,hys,HQ,HT⟩:=hrel
  by_cases hlt:j<xs.length
  ·obtain⟨b,P2,p2,P5,p5,rfl,hb,k0,k1,k2,k3,k4,k5,hV⟩:=HKM.out j hlt
   have hB:=HT.out.low
   have x0:=(hB.cell (p:=⟨b,j*6,none⟩) hb).trans k0
   have x1:=(hB.cell (p:=⟨b,j*6+1,none⟩) hb).trans k1
   have x2:=(hB.cell (p:=⟨b,j*6+2,none⟩) hb).trans k2
   have x3:=(hB.cell (p:=⟨b,j*6+3,none⟩) hb).trans k3
   have x4:=(hB.cell (p:=⟨b,j*6+4,none⟩) hb).trans k4
   have x5:=(hB.cell (p:=⟨b,j*6+5,none⟩) hb).trans k5
   have z5:=(cells6 HT.out.b1).2.2.2.2.2
   have y5:=(cells6 HT.out.b3).2.2.2.2.2
   have hsz3:=HT.out.size
   have hsz:w.heap.size+2≤wr.heap.size:=by omega
   have hBn:=HBn.out
   have hok: ∀q,(ok q∧q<w.heap.size)→F q∧q<w.heap.size:=fun q hq=>⟨by rw[HFF.out];exact Or.inl hq,hq.2⟩
   have HC:Hid (Calls Tryz.prog 52 #[.agg #[.int .i64 xs[j].f0, .bool xs[j].f1, .slice P2 xs[j].f2.length p2, .int .u64 xs[j].f3, .string xs[j].f4, .slice P5 xs[j].f5.length p5]] wr.drew (KeyR m B (fun q=>ok q∧q<w.heap.size) wr.drew)):=Lib.hid (HIH.out _ [.int .i64 xs[j].f0, .bool xs[j].f1, .slice P2 xs[j].f2.length p2, .int .u64 xs[j].f3, .string xs[j].f4, .slice P5 xs[j].f5.length p5] wr.drew _ (Nat.le_trans hBn hB.size) (Kd.M_mono _ (fun q hq=>⟨hq.1,hq.2.2.1⟩) (Kd.M_below hV hB.drew)) (HKS.out _ (List.getElem_mem hlt)))
   have HBr:Hid (Below (w.heap.size+2) wr wr):=Lib.hid (Below.refl _ _)
   have HS:Hid (∀W,Below (w.heap.size+2) wr W→(W.cell? ⟨b,j*6,none⟩=some (.int .i64 xs[j].f0)∧W.cell? ⟨b,j*6+1,none⟩=some (.bool xs[j].f1)∧W.cell? ⟨b,j*6+2,none⟩=some (.slice P2 xs[j].f2.length p2)∧W.cell? ⟨b,j*6+3,none⟩=some (.int .u64 xs[j].f3)∧W.cell? ⟨b,j*6+4,none⟩=some (.string xs[j].f4)∧W.cell? ⟨b,j*6+5,none⟩=some (.slice P5 xs[j].f5.length p5))∧W.cell? ⟨w.heap.size,5,none⟩=some (.slice (some ⟨b,0,none⟩) xs.length c5)):=Lib.hid fun W hW=>by
    have hb2:b<w.heap.size+2:=by omega
    exact⟨⟨(hW.cell (p:=⟨b,j*6,none⟩) hb2).trans x0,(hW.cell (p:=⟨b,j*6+1,none⟩) hb2).trans x1,(hW.cell (p:=⟨b,j*6+2,none⟩) hb2).trans x2,(hW.cell (p:=⟨b,j*6+3,none⟩) hb2).trans x3,(hW.cell (p:=⟨b,j*6+4,none⟩) hb2).trans x4,(hW.cell (p:=⟨b,j*6+5,none⟩) hb2).trans x5⟩,(hW.cell (p:=⟨w.heap.size,5,none⟩) (by show w.heap.size<_;omega)).trans z5⟩
   clear k0 k1 k2 k3 k4 k5 hV hB x0 x1 x2 x3 x4 x5
   go_upto_region 8 with fail
   clear z5
   refine wp_region_held_drew (S:=fun W=>(W.cell? ⟨b,j*6,none⟩=some (.int .i64 xs[j].f0)∧W.cell? ⟨b,j*6+1,none⟩=some (.bool xs[j].f1)∧W.cell? ⟨b,j*6+2,none⟩=some (.slice P2 xs[j].f2.length p2)∧W.cell? ⟨b,j*6+3,none⟩=some (.int .u64 xs[j].f3)∧W.cell? ⟨b,j*6+4,none⟩=some (.string xs[j].f4)∧W.cell? ⟨b,j*6+5,none⟩=some (.slice P5 xs[j].f5.length p5))∧W.cell? ⟨w.heap.size,5,none⟩=some (.slice (some ⟨b,0,none⟩) xs.length c5)) (by kernel_rfl) (HS.out _ HBr.out.drew) (fun hHeld=>?_)
   refine wpAnyH_take (i:=0) (oi:=_) (v:=?_) rfl (by kernel_rfl) (by kernel_rfl) (by kernel_rfl) (fun _ _ _ h=>h) (Or.inl ⟨by rfl,?_⟩) (by assumption) ?_;rotate_left 1;·(intro w hSw;(try dsimp only at hSw);go_simp;first|done|with_reducible rfl)
   try simp only[Act.put,List.setIfInBounds_toArray,List.set_cons_zero,List.set_cons_succ,List.getElem_toArray,List.getElem_cons_zero,List.getElem_cons_succ]
   refine wpAnyH_take (i:=2) (oi:=_) (v:=?_) rfl (by kernel_rfl) (by kernel_rfl) (by kernel_rfl) (fun _ _ _ h=>h) (Or.inl ⟨by rfl,?_⟩) (by assumption) ?_;rotate_left 1;·(intro w hSw;(try dsimp only at hSw);go_simp;first|done|with_reducible rfl)
   try simp only[Act.put,List.setIfInBounds_toArray,List.set_cons_zero,List.set_cons_succ,List.getElem_toArray,List.getElem_cons_zero,List.getElem_cons_succ]
   refine wpAnyH_take (i:=3) (oi:=_) (v:=?_) rfl (by kernel_rfl) (by kernel_rfl) (by kernel_rfl) (fun _ _ _ h=>h) (Or.inl ⟨by rfl,?_⟩) (by assumption) ?_;rotate_left 1;·(intro w hSw;(try dsimp only at hSw);go_simp;first|done|with_reducible rfl)
   try simp only[Act.put,List.setIfInBounds_toArray,List.set_cons_zero,List.set_cons_succ,List.getElem_toArray,List.getElem_cons_zero,List.getElem_cons_succ]
   refine wpAnyH_take (i:=4) (oi:=_) (v:=?_) rfl (by kernel_rfl) (by kernel_rfl) (by kernel_rfl) (fun _ _ _ h=>h) (Or.inl ⟨by rfl,?_⟩) (by assumption) ?_;rotate_left 1;·(intro w hSw;(try dsimp only at hSw);go_simp;first|done|with_reducible rfl)
   try simp only[Act.put,List.setIfInBounds_toArray,List.set_cons_zero,List.set_cons_succ,List.getElem_toArray,List.getElem_cons_zero,List.getElem_cons_succ]
   refine wpAnyH_take (i:=5) (oi:=_) (v:=?_) rfl (by kernel_rfl) (by kernel_rfl) (by kernel_rfl) (fun _ _ _ h=>h) (Or.inl ⟨by rfl,?_⟩) (by assumption) ?_;rotate_left 1;·(intro w hSw;(try dsimp only at hSw);go_simp;first|done|with_reducible rfl)
   try simp only[Act.put,List.setIfInBounds_toArray,List.set_cons_zero,List.set_cons_succ,List.getElem_toArray,List.getElem_cons_zero,List.getElem_cons_succ]
   refine wpAnyH_take (i:=6) (oi:=_) (v:=?_) rfl (by kernel_rfl) (by kernel_rfl) (by kernel_rfl) (fun _ _ _ h=>h) (Or.inl ⟨by rfl,?_⟩) (by assumption) ?_;rotate_left 1;·(intro w hSw;(try dsimp only at hSw);go_simp;first|done|with_reducible rfl)
   try simp only[Act.put,List.setIfInBounds_toArray,List.set_cons_zero,List.set_cons_succ,List.getElem_toArray,List.getElem_cons_zero,List.getElem_cons_succ]
   refine wpAnyH_ready (rs:=[1,7]) (by kernel_rfl) (by simp) ?_
   refine AllReadyH.cons (o:=_) rfl (fun K hK=>?_) (AllReadyH.cons (o:=_) rfl (fun K hK=>?_) AllReadyH.nil)
   ·go_simp
    refine hK.out _ _ (HS.out _ HBr.out.drew) (fun hHeld=>?_)
    clear hK K
    try simp only[Act.put,List.setIfInBounds_toArray,List.set_cons_zero,List.set_cons_succ,List.getElem_toArray,List.getElem_cons_zero,List.getElem_cons_succ]
    refine wpAnyH_ready (rs:=[7]) (by kernel_rfl) (by simp) ?_
    refine AllReadyH.cons (o:=_) rfl (fun K hK=>?_) AllReadyH.nil
    go_simp;go_at_call 52;(with_reducible refine HC.out.mono ?_);rintro e w1 ⟨cs1,y,rfl,hM,hct,hhk,hb1⟩;obtain⟨Q2,q2,Q5,q5,rfl⟩:=m_shape hM;have HV:=Lib.hid (HT.out.drewed.app hb1 hM hok hBn);have HCK:=Lib.hid (And.intro hct hhk);have HB1:=Lib.hid (HBr.out.drew.trans (hb1.mono hsz));have t5:=(cells6 HV.out.2.2.2.2.2.2.b3).2.2.2.2.2;have tA: ∀o,(w1.alloc o).cell? ⟨w.heap.size+2,5,none⟩=some out:=fun o=>(cells6 (blk_alloc HV.out.2.2.2.2.2.2.b3 o)).2.2.2.2.2;clear hM hct hhk hb1
    refine hK.out _ _ (HS.out _ HB1.out) (fun hHeld=>?_)
    clear hK K
    try simp only[Act.put,List.setIfInBounds_toArray,List.set_cons_zero,List.set_cons_succ,List.getElem_toArray,List.getElem_cons_zero,List.getElem_cons_succ]
    refine wpAnyH_ready (rs:=[8]) (by kernel_rfl) (by simp) ?_
    refine AllReadyH.cons (o:=_) rfl (fun K hK=>?_) AllReadyH.nil
    go_simp
    refine hK.out _ _ (HS.out _ (HB1.out.alloc (Nat.le_trans hsz HB1.out.size) _)) (fun hHeld=>?_)
    clear hK K
    try simp only[Act.put,List.setIfInBounds_toArray,List.set_cons_zero,List.set_cons_succ,List.getElem_toArray,List.getElem_cons_zero,List.getElem_cons_succ]
    refine wpAnyH_ready (rs:=[9]) (by kernel_rfl) (by simp) ?_
    refine AllReadyH.cons (o:=_) rfl (fun K hK=>?_) AllReadyH.nil
    refine Kd.R_append_step kV (w0:=w1) B rfl (.tmp 26) (.tmp 33) 24 26 (.agg zero6) 88 rfl Tryz.underlying24 vInfo rfl (by decide) (by omega) out ys y _ F _ rfl rfl HV.out.1 HV.out.2.1 HV.out.2.2.1 HV.out.2.2.2.1 HV.out.2.2.2.2.1 HV.out.2.2.2.2.2.1 (by omega) ?_;intro v1 w2 hr2 hb2 hg hat;obtain⟨Av,cv,rfl⟩:=Kd.R_slice hr2;have HP:=Lib.hid (HV.out.2.2.2.2.2.2.push hr2 hg hat);have hz2:=HV.out.2.2.2.2.2.2.third hg;have HB2:=Lib.hid (HV.out.2.2.2.2.2.2.keeps hg HB1.out);have u5:=(cells6 hz2).2.2.2.2.2;have uz:=blk_free hz2;clear hr2 hb2 hg hat hz2
    refine hK.out _ _ (HS.out _ HB2.out) (fun hHeld=>?_)
    clear hK K
    try simp only[Act.put,List.setIfInBounds_toArray,List.set_cons_zero,List.set_cons_succ,List.getElem_toArray,List.getElem_cons_zero,List.getElem_cons_succ]
    refine wpAnyH_take (i:=10) (oi:=_) (v:=?_) rfl (by kernel_rfl) (by kernel_rfl) (by kernel_rfl) (fun _ _ _ h=>h) (Or.inl ⟨by rfl,?_⟩) (by assumption) ?_;rotate_left 1;·(intro w hSw;(try dsimp only at hSw);go_simp;first|done|with_reducible rfl)
    try simp only[Act.put,List.setIfInBounds_toArray,List.set_cons_zero,List.set_cons_succ,List.getElem_toArray,List.getElem_cons_zero,List.getElem_cons_succ]
    refine wpAnyH_ready (rs:=[11]) (by kernel_rfl) (by simp) ?_
    refine AllReadyH.cons (o:=_) rfl (fun K hK=>?_) AllReadyH.nil
    go_simp
    refine hK.out _ _ (HS.out _ (HB2.out.setCell (p:=⟨w.heap.size+2,5,none⟩) (Nat.le_refl _) _)) (fun hHeld=>?_)
    clear hK K
    try simp only[Act.put,List.setIfInBounds_toArray,List.set_cons_zero,List.set_cons_succ,List.getElem_toArray,List.getElem_cons_zero,List.getElem_cons_succ]
    refine wpAnyH_done (by kernel_rfl) ?_ _
    go_wp2
    go_roundw
    case rel=>exact⟨j+1,_,ys++[y],by omega,by go_num,by simp[hys],Lib.hid (fun q hq=>by rcases List.mem_append.1 hq with h|h;exact HQ.out q h;rw[List.mem_singleton] at h;rw[h];exact HCK.out),Lib.hid (cb_len HP.out (by simp[hys]))⟩
    case measure=>simp[intOf];omega
   ·go_simp;go_at_call 52;(with_reducible refine HC.out.mono ?_);rintro e w1 ⟨cs1,y,rfl,hM,hct,hhk,hb1⟩;obtain⟨Q2,q2,Q5,q5,rfl⟩:=m_shape hM;have HV:=Lib.hid (HT.out.drewed.app hb1 hM hok hBn);have HCK:=Lib.hid (And.intro hct hhk);have HB1:=Lib.hid (HBr.out.drew.trans (hb1.mono hsz));have t5:=(cells6 HV.out.2.2.2.2.2.2.b3).2.2.2.2.2;have tA: ∀o,(w1.alloc o).cell? ⟨w.heap.size+2,5,none⟩=some out:=fun o=>(cells6 (blk_alloc HV.out.2.2.2.2.2.2.b3 o)).2.2.2.2.2;clear hM hct hhk hb1
    refine hK.out _ _ (HS.out _ HB1.out) (fun hHeld=>?_)
    clear hK K
    try simp only[Act.put,List.setIfInBounds_toArray,List.set_cons_zero,List.set_cons_succ,List.getElem_toArray,List.getElem_cons_zero,List.getElem_cons_succ]
    refine wpAnyH_ready (rs:=[1,8]) (by kernel_rfl) (by simp) ?_
    refine AllReadyH.cons (o:=_) rfl (fun K hK=>?_) (AllReadyH.cons (o:=_) rfl (fun K hK=>?_) AllReadyH.nil)
    ·go_simp
     refine hK.out _ _ (HS.out _ HB1.out) (fun hHeld=>?_)
     clear hK K
     try simp only[Act.put,List.setIfInBounds_toArray,List.set_cons_zero,List.set_cons_succ,List.getElem_toArray,List.getElem_cons_zero,List.getElem_cons_succ]
     refine wpAnyH_ready (rs:=[8]) (by kernel_rfl) (by simp) ?_
     refine AllReadyH.cons (o:=_) rfl (fun K hK=>?_) AllReadyH.nil
     go_simp
     refine hK.out _ _ (HS.out _ (HB1.out.alloc (Nat.le_trans hsz HB1.out.size) _)) (fun hHeld=>?_)
     clear hK K
     try simp only[Act.put,List.setIfInBounds_toArray,List.set_cons_zero,List.set_cons_succ,List.getElem_toArray,List.getElem_cons_zero,List.getElem_cons_succ]
     refine wpAnyH_ready (rs:=[9]) (by kernel_rfl) (by simp) ?_
     refine AllReadyH.cons (o:=_) rfl (fun K hK=>?_) AllReadyH.nil
     refine Kd.R_append_step kV (w0:=w1) B rfl (.tmp 26) (.tmp 33) 24 26 (.agg zero6) 88 rfl Tryz.underlying24 vInfo rfl (by decide) (by omega) out ys y _ F _ rfl rfl HV.out.1 HV.out.2.1 HV.out.2.2.1 HV.out.2.2.2.1 HV.out.2.2.2.2.1 HV.out.2.2.2.2.2.1 (by omega) ?_;intro v1 w2 hr2 hb2 hg hat;obtain⟨Av,cv,rfl⟩:=Kd.R_slice hr2;have HP:=Lib.hid (HV.out.2.2.2.2.2.2.push hr2 hg hat);have hz2:=HV.out.2.2.2.2.2.2.third hg;have HB2:=Lib.hid (HV.out.2.2.2.2.2.2.keeps hg HB1.out);have u5:=(cells6 hz2).2.2.2.2.2;have uz:=blk_free hz2;clear hr2 hb2 hg hat hz2
     refine hK.out _ _ (HS.out _ HB2.out) (fun hHeld=>?_)
     clear hK K
     try simp only[Act.put,List.setIfInBounds_toArray,List.set_cons_zero,List.set_cons_succ,List.getElem_toArray,List.getElem_cons_zero,List.getElem_cons_succ]
     refine wpAnyH_take (i:=10) (oi:=_) (v:=?_) rfl (by kernel_rfl) (by kernel_rfl) (by kernel_rfl) (fun _ _ _ h=>h) (Or.inl ⟨by rfl,?_⟩) (by assumption) ?_;rotate_left 1;·(intro w hSw;(try dsimp only at hSw);go_simp;first|done|with_reducible rfl)
     try simp only[Act.put,List.setIfInBounds_toArray,List.set_cons_zero,List.set_cons_succ,List.getElem_toArray,List.getElem_cons_zero,List.getElem_cons_succ]
     refine wpAnyH_ready (rs:=[11]) (by kernel_rfl) (by simp) ?_
     refine AllReadyH.cons (o:=_) rfl (fun K hK=>?_) AllReadyH.nil
     go_simp
     refine hK.out _ _ (HS.out _ (HB2.out.setCell (p:=⟨w.heap.size+2,5,none⟩) (Nat.le_refl _) _)) (fun hHeld=>?_)
     clear hK K
     try simp only[Act.put,List.setIfInBounds_toArray,List.set_cons_zero,List.set_cons_succ,List.getElem_toArray,List.getElem_cons_zero,List.getElem_cons_succ]
     refine wpAnyH_done (by kernel_rfl) ?_ _
     go_wp2
     go_roundw
     case rel=>exact⟨j+1,_,ys++[y],by omega,by go_num,by simp[hys],Lib.hid (fun q hq=>by rcases List.mem_append.1 hq with h|h;exact HQ.out q h;rw[List.mem_singleton] at h;rw[h];exact HCK.out),Lib.hid (cb_len HP.out (by simp[hys]))⟩
     case measure=>simp[intOf];omega
    ·go_simp
     refine hK.out _ _ (HS.out _ (HB1.out.alloc (Nat.le_trans hsz HB1.out.size) _)) (fun hHeld=>?_)
     clear hK K
     try simp only[Act.put,List.setIfInBounds_toArray,List.set_cons_zero,List.set_cons_succ,List.getElem_toArray,List.getElem_cons_zero,List.getElem_cons_succ]
     refine wpAnyH_ready (rs:=[1]) (by kernel_rfl) (by simp) ?_
     refine AllReadyH.cons (o:=_) rfl (fun K hK=>?_) AllReadyH.nil
     go_simp
     refine hK.out _ _ (HS.out _ (HB1.out.alloc (Nat.le_trans hsz HB1.out.size) _)) (fun hHeld=>?_)
     clear hK K
     try simp only[Act.put,List.setIfInBounds_toArray,List.set_cons_zero,List.set_cons_succ,List.getElem_toArray,List.getElem_cons_zero,List.getElem_cons_succ]
     refine wpAnyH_ready (rs:=[9]) (by kernel_rfl) (by simp) ?_
     refine AllReadyH.cons (o:=_) rfl (fun K hK=>?_) AllReadyH.nil
     refine Kd.R_append_step kV (w0:=w1) B rfl (.tmp 26) (.tmp 33) 24 26 (.agg zero6) 88 rfl Tryz.underlying24 vInfo rfl (by decide) (by omega) out ys y _ F _ rfl rfl HV.out.1 HV.out.2.1 HV.out.2.2.1 HV.out.2.2.2.1 HV.out.2.2.2.2.1 HV.out.2.2.2.2.2.1 (by omega) ?_;intro v1 w2 hr2 hb2 hg hat;obtain⟨Av,cv,rfl⟩:=Kd.R_slice hr2;have HP:=Lib.hid (HV.out.2.2.2.2.2.2.push hr2 hg hat);have hz2:=HV.out.2.2.2.2.2.2.third hg;have HB2:=Lib.hid (HV.out.2.2.2.2.2.2.keeps hg HB1.out);have u5:=(cells6 hz2).2.2.2.2.2;have uz:=blk_free hz2;clear hr2 hb2 hg hat hz2
     refine hK.out _ _ (HS.out _ HB2.out) (fun hHeld=>?_)
     clear hK K
     try simp only[Act.put,List.setIfInBounds_toArray,List.set_cons_zero,List.set_cons_succ,List.getElem_toArray,List.getElem_cons_zero,List.getElem_cons_succ]
     refine wpAnyH_take (i:=10) (oi:=_) (v:=?_) rfl (by kernel_rfl) (by kernel_rfl) (by kernel_rfl) (fun _ _ _ h=>h) (Or.inl ⟨by rfl,?_⟩) (by assumption) ?_;rotate_left 1;·(intro w hSw;(try dsimp only at hSw);go_simp;first|done|with_reducible rfl)
     try simp only[Act.put,List.setIfInBounds_toArray,List.set_cons_zero,List.set_cons_succ,List.getElem_toArray,List.getElem_cons_zero,List.getElem_cons_succ]
     refine wpAnyH_ready (rs:=[11]) (by kernel_rfl) (by simp) ?_
     refine AllReadyH.cons (o:=_) rfl (fun K hK=>?_) AllReadyH.nil
     go_simp
     refine hK.out _ _ (HS.out _ (HB2.out.setCell (p:=⟨w.heap.size+2,5,none⟩) (Nat.le_refl _) _)) (fun hHeld=>?_)
     clear hK K
     try simp only[Act.put,List.setIfInBounds_toArray,List.set_cons_zero,List.set_cons_succ,List.getElem_toArray,List.getElem_cons_zero,List.getElem_cons_succ]
     refine wpAnyH_done (by kernel_rfl) ?_ _
     go_wp2
     go_roundw
     case rel=>exact⟨j+1,_,ys++[y],by omega,by go_num,by simp[hys],Lib.hid (fun q hq=>by rcases List.mem_append.1 hq with h|h;exact HQ.out q h;rw[List.mem_singleton] at h;rw[h];exact HCK.out),Lib.hid (cb_len HP.out (by simp[hys]))⟩
     case measure=>simp[intOf];omega
  ·have hjn:j=xs.length:=by omega
   obtain⟨Ao,Lo,co,rfl⟩: ∃A L c,out= .slice A L c:=by obtain⟨A,c,e⟩:=Kd.R_slice HT.out.row;exact⟨A,_,c,e⟩
   obtain⟨z0,z1,z2,z3,z4,z5⟩:=cells6 HT.out.b1
   obtain⟨y0,y1,y2,y3,y4,y5⟩:=cells6 HT.out.b2
   obtain⟨x0,x1,x2,x3,x4,x5⟩:=cells6 HT.out.b3
   have yz:=blk_free HT.out.b2
   go_wp2
   refine bodyPost_ret (v:= .agg #[.int .i64 7, .bool false, .slice none 0 0, .int .u64 0, .string ⟨#[]⟩, .slice Ao Lo co]) (by simp[results,Tryz.results52,go_sem,y0,y1,y2,y3,y4,y5]) rfl ?_
   obtain⟨hM,hb⟩:=HT.out.final (.int .i64 7) (.bool false) (.slice none 0 0) (.int .u64 0) (.string ⟨#[]⟩) (.slice Ao Lo co)
   refine⟨_,⟨7,false,[],0,⟨#[]⟩,ys⟩,rfl,Kd.M_mono _ (fun q hq=>?_) hM,Or.inr ⟨⟨rfl,rfl,rfl,rfl⟩,(by show ys.length≤16;omega),fun q hq=>(HQ.out q hq).1,Or.inr (Or.inl rfl)⟩,Or.inr ⟨rfl,fun q hq=>(HQ.out q hq).2⟩,hb⟩
   rw[HFF.out] at hq
   rcases hq with hq|hq
   ·exact Or.inl hq.1
   ·exact Or.inr (by omega)
theorem key_c: ∀(n B:Nat) (ok:Nat→Prop) (x:VT) (cs:List Value) (w:World),B≤w.heap.size→kV.M w B ok x cs→CT n x→Calls Tryz.prog 52 #[.agg cs.toArray] w (KeyR n B ok w)
 |n,B,ok,x,cs,w,hB,hM,h=>by
  by_cases hk:x.f0<6
  ·exact keySca_c n B ok x cs w hM (h.isSC hk)
  ·obtain⟨m,rfl,_,hl,hks,_⟩:=h.isBox hk
   exact keyBox_c m B ok x cs w hB hM hk hl hks fun x cs W ok hB hM hx=>key_c m B ok x cs W hB hM hx
 termination_by n=>n
end Go.Proofs.YtkplnbjgkhmbcaaGreatDoor
namespace Go.Proofs.YtkplnbjgkhmbcaaGreatDoor
open Go.RowKit Go.Shelf Go.Proofs.YtkplnbjgkhmbcaaGreatDoorW.PrintWords Go.Proofs.YtkplnbjgkhmbcaaGreatDoorW.PrintLast Go.Proofs.YtkplnbjgkhmbcaaGreatDoorW.PrintMore Go.Proofs.YtkplnbjgkhmbcaaGreatDoor.PFnCompare Go.Proofs.YtkplnbjgkhmbcaaGreatDoor.PCmp Go.Proofs.YtkplnbjgkhmbcaaGreatDoor.PbytesOf
set_option linter.unusedVariables false
set_option linter.unusedSimpArgs false
attribute [local go_sem] max2_int min2_int max_two min_two max_three min_three max_four min_four
set_option maxRecDepth 100000 in
set_option maxHeartbeats 1000000 in
theorem cleanIntD_c (d:Int) (hd: ¬d≤0) (x:VT) (v:Value) (w:World) (h:RR w v x) (hr:Raw x) (hk:(wrap64 (x.f0.tmod 10+10)).tmod 10=2):Calls Tryz.prog 9 #[v, .int .i64 d] w (CleanR w):=by
 obtain⟨A2,c2,A5,n5,c5,rfl,l2,g2⟩:=h
 have hsl0:=c_sl g2 l2
 have HT:=Lib.hid (sl_take hsl0 40)
 have hlen:(x.f2.take 40).length≤40:=by rw[List.length_take];omega
 obtain⟨i5,hi5,hz5⟩:=Option.map_eq_some_iff.1 byteInfo
 simp only[Prod.mk.injEq] at hz5
 obtain⟨_,hs5,_⟩:=hz5
 have hsl:=fun W=>(print_take_int (P:=Tryz.prog) (k:= .u8) 22 5 Tryz.underlying22 hi5 hs5 A2 c2 x.f2 (mn x.f2.length 40) (by unfold mn;split<;>omega) (by unfold mn;split<;>omega) l2).1 W
 have e1:(x.f2.take (mn x.f2.length 40).toNat)=x.f2.take 40:=by
  unfold mn
  split
  ·rfl
  ·rw[Int.toNat_natCast,List.take_length,List.take_of_length_le (by omega)]
 rw[e1] at hsl
 have HBy:Hid (Bytes (x.f2.take 40)):=Lib.hid fun z hz=>hr.mag z (List.mem_of_mem_take hz)
 clear g2 l2 hi5 hs5 hsl0 hr
 obtain⟨m2,hm2⟩: ∃m2,m2=x.f2.take 40:=⟨_,rfl⟩
 rw[←hm2] at hsl HT hlen HBy
 clear hm2 e1
 unfold mn at hsl
 obtain⟨n,HN⟩: ∃n,Hid (n=(x.f1&&decide (0<(cutL m2).length))):=⟨_,rfl⟩
 have HO:Hid (∀w',Below w.heap.size w w'→Calls Tryz.prog 24 #[.bool x.f1, .slice A2 m2.length c2] w' fun e w''=> ∃A1 c1,e= .returned (.agg #[.bool n, .slice A1 (cutL m2).length c1])∧Sl .u8 w'.heap.size w'' (.slice A1 (cutL m2).length c1) (cutL m2)∧Below w'.heap.size w' w''):=by
  intro w' hb
  refine(of_c x.f1 _ _ _ _ (HT.out.below hb) (by omega)).mono ?_
  rintro e w1 ⟨v1,rfl,⟨s1,rfl,hs1⟩,hb1⟩
  obtain⟨A1,c1,rfl,_⟩:=hs1.c
  exact⟨A1,c1,by rw[HN.out],hs1,hb1⟩
 have HGd:Hid (Good n (cutL m2)):=by rw[HN.out];exact Lib.hid (good_of x.f1 m2 HBy.out (by omega))
 have hcl:=cutL_length m2
 obtain⟨l3,HL3⟩: ∃l3,Hid (l3=cutL m2):=⟨_,rfl⟩
 rw[←HL3.out] at HO hcl HGd
 have HI:Hid (∀W A1 c1,Sl .u8 0 W (.slice A1 l3.length c1) l3→Calls Tryz.prog 23 #[.agg #[.bool n, .slice A1 l3.length c1]] W fun e w'=> ∃A3 c3 A5 c5,e= .returned (.agg #[.int .i64 2, .bool n, .slice A3 l3.length c3, .int .u64 0, .string ⟨#[]⟩, .slice A5 0 c5])∧kV.M w' W.heap.size (fun k=>W.heap.size≤k) ⟨2,n,l3,0,⟨#[]⟩,[]⟩ [.int .i64 2, .bool n, .slice A3 l3.length c3, .int .u64 0, .string ⟨#[]⟩, .slice A5 0 c5]∧Below W.heap.size W w'):=Lib.hid fun W A1 c1 h=>intVal_c n A1 c1 l3 W h (by omega)
 obtain⟨W0,hW0⟩: ∃W,W=(w.alloc (.cells #[.int .i64 x.f0, .bool x.f1, .slice A2 x.f2.length c2, .int .u64 x.f3, .string x.f4, .slice A5 n5 c5] 26)).alloc (.cells #[.int .i64 0, .bool false, .slice none 0 0, .int .u64 0, .string ⟨#[]⟩, .slice none 0 0] 26):=⟨_,rfl⟩
 have HB0:Hid (Below w.heap.size w W0):=by rw[hW0];exact Lib.hid (((Below.refl _ w).alloc (Nat.le_refl _) _).alloc (by simp) _)
 have HX0:Hid (W0.heap[w.heap.size]?=some (.cells #[.int .i64 x.f0, .bool x.f1, .slice A2 x.f2.length c2, .int .u64 x.f3, .string x.f4, .slice A5 n5 c5] 26 (0,0))):=by rw[hW0];exact Lib.hid (blk_alloc (blk_new _ _) _)
 have HK0:Hid (W0.heap[w.heap.size+1]?=some (.cells #[.int .i64 0, .bool false, .slice none 0 0, .int .u64 0, .string ⟨#[]⟩, .slice none 0 0] 26 (0,0))):=by rw[hW0];exact Lib.hid (by simpa using blk_new (w.alloc _) _)
 all_goals
  by_cases hlt:(40:Int)<x.f2.length
  all_goals
   first|rw[if_pos hlt] at hsl|rw[if_neg hlt] at hsl
   go_enter Tryz.func9,Tryz.ntmps9
   go_upto_region 8 with fail
   rw[←hW0]
   clear hW0
   obtain⟨z0,z1,z2,z3,z4,z5⟩:=cells6 HX0.out
   clear z0 z3 z4 z5
   go_region_held3 (fun W=>W.cell? ⟨w.heap.size,1,none⟩=some (.bool x.f1)∧W.cell? ⟨w.heap.size,2,none⟩=some (.slice A2 x.f2.length c2)) (first|(with_reducible exact⟨(far6 w.heap.size 1 _ _ _ _ _ _ _).trans q1,(far6 w.heap.size 2 _ _ _ _ _ _ _).trans q2⟩)|(with_reducible exact⟨q1,q2⟩)|(with_reducible exact⟨y1,y2⟩)|(with_reducible exact⟨z1,z2⟩)|exact⟨z1,z2⟩) (first
    |(go_at_call 24;(with_reducible refine(HO.out _ (by first|(with_reducible exact HB0.out)|(with_reducible exact HB0.out.drew))).mono ?_);rintro e w1 ⟨A1,c1,rfl,hs1,hb1⟩;have HS1:=Lib.hid hs1;have HB1:=Lib.hid hb1;have y1:=(hb1.cell (p:=⟨w.heap.size,1,none⟩) (lt_blk HX0.out)).trans z1;have y2:=(hb1.cell (p:=⟨w.heap.size,2,none⟩) (lt_blk HX0.out)).trans z2;clear hs1 hb1)
    |(go_at_call 23;(with_reducible refine(HI.out _ _ _ (HS1.out.mono (Nat.zero_le _))).mono ?_);rintro e w2 ⟨A3,c3,A6,c6,rfl,hM,hb2⟩;have HM:=Lib.hid hM;have HB2:=Lib.hid hb2;have q1:=(hb2.cell (p:=⟨w.heap.size,1,none⟩) (Nat.lt_of_lt_of_le (lt_blk HX0.out) HB1.out.size)).trans y1;have q2:=(hb2.cell (p:=⟨w.heap.size,2,none⟩) (Nat.lt_of_lt_of_le (lt_blk HX0.out) HB1.out.size)).trans y2;obtain⟨x0,x1,x2,x3,x4,x5⟩:=cells6 (blk_below ((HB1.out.block _ (lt_blk HK0.out)).trans HK0.out) hb2);have hfz:=fun o=>blk_free (blk_below ((HB1.out.block _ (lt_blk HK0.out)).trans HK0.out) hb2) o;clear hM hb2))
 all_goals go_wp2
 all_goals refine bodyPost_ret (v:= .agg #[.int .i64 2, .bool n, .slice A3 l3.length c3, .int .u64 0, .string ⟨#[]⟩, .slice A6 0 c6]) (by simp[results,Tryz.results9,go_sem,x0,x1,x2,x3,x4,x5]) rfl ?_
 all_goals
  have h01:=lt_blk HK0.out
  have h02:=HB0.out.size
  have h12:W0.heap.size≤w1.heap.size:=HB1.out.size
  have hne: ∀k,w1.heap.size≤k→k≠w.heap.size+1:=fun k hk=>by omega
  have hle:w.heap.size≤w.heap.size+1:=Nat.le_succ _
  have hb1:Below w.heap.size w w1:=by first|exact HB0.out.trans (HB1.out.mono h02)|exact HB0.out.drew.trans (HB1.out.mono h02)
  refine⟨_, .int (val n l3),⟨2,n,l3,0,⟨#[]⟩,[]⟩,rfl,⟨_,rfl,?_⟩,canon_num_of HGd.out rfl (by omega),?_,?_⟩
  ·exact Kd.M_mono _ (fun _ _=>trivial) (Kd.M_lower _ (by omega) (Kd.M_far (p:=⟨w.heap.size+1,5,none⟩) (Kd.M_far (p:=⟨w.heap.size+1,4,none⟩) (Kd.M_far (p:=⟨w.heap.size+1,3,none⟩) (Kd.M_far (p:=⟨w.heap.size+1,2,none⟩) (Kd.M_far (p:=⟨w.heap.size+1,1,none⟩) (Kd.M_far (p:=⟨w.heap.size+1,0,none⟩) HM.out hne _) hne _) hne _) hne _) hne _) hne _))
  ·show(val n l3).natAbs<256^60
   have hbd:=beN_bd l3 HGd.out.bytes
   have hp:=pow_le_pow l3.length 60 (by omega)
   have e60:((256^60:Nat):Int)=256^60:=by simp
   unfold val
   cases n<;>simp<;>omega
  ·exact(((((((hb1.trans (HB2.out.mono hb1.size)).setCell (p:=⟨w.heap.size+1,0,none⟩) hle _).setCell (p:=⟨w.heap.size+1,1,none⟩) hle _).setCell (p:=⟨w.heap.size+1,2,none⟩) hle _).setCell (p:=⟨w.heap.size+1,3,none⟩) hle _).setCell (p:=⟨w.heap.size+1,4,none⟩) hle _).setCell (p:=⟨w.heap.size+1,5,none⟩) hle _)
set_option maxRecDepth 100000 in
theorem cleanScaD_c (d:Int) (hd: ¬d≤0) (x:VT) (v:Value) (w:World) (h:RR w v x) (hr:Raw x) (h6:(wrap64 (x.f0.tmod 10+10)).tmod 10<6):Calls Tryz.prog 9 #[v, .int .i64 d] w (CleanR w):=by
 obtain⟨k,hk⟩: ∃k,(wrap64 (x.f0.tmod 10+10)).tmod 10=k:=⟨_,rfl⟩
 rw[hk] at h6
 have hk9:k=0∨k=1∨k=2∨k=3∨k=4∨k=5:=by
  have a1:=Int.tmod_lt_of_pos x.f0 (show(0:Int)<10 by omega)
  have a2:=Int.lt_tmod_of_pos x.f0 (show(0:Int)<10 by omega)
  rw[wrap_in _ (by omega) (by omega),Int.tmod_eq_emod_of_nonneg (by omega)] at hk
  omega
 by_cases h28:k=2
 ·exact cleanIntD_c d hd x v w h hr (by rw[hk,h28])
 obtain⟨A2,c2,A5,n5,c5,rfl,l2,g2⟩:=h
 have HR:=Lib.hid hr
 have HB0:Hid (Below w.heap.size w ((w.alloc (.cells #[.int .i64 x.f0, .bool x.f1, .slice A2 x.f2.length c2, .int .u64 x.f3, .string x.f4, .slice A5 n5 c5] 26)).alloc (.cells #[.int .i64 0, .bool false, .slice none 0 0, .int .u64 0, .string ⟨#[]⟩, .slice none 0 0] 26))):=Lib.hid (((Below.refl _ w).alloc (Nat.le_refl _) _).alloc (by simp) _)
 have HK0:Hid (((w.alloc (.cells #[.int .i64 x.f0, .bool x.f1, .slice A2 x.f2.length c2, .int .u64 x.f3, .string x.f4, .slice A5 n5 c5] 26)).alloc (.cells #[.int .i64 0, .bool false, .slice none 0 0, .int .u64 0, .string ⟨#[]⟩, .slice none 0 0] 26)).heap[w.heap.size+1]?=some (.cells #[.int .i64 0, .bool false, .slice none 0 0, .int .u64 0, .string ⟨#[]⟩, .slice none 0 0] 26 (0,0))):=Lib.hid (by simpa using blk_new (w.alloc _) _)
 clear l2 g2 hr h6
 go_enter Tryz.func9,Tryz.ntmps9
 go_upto_region 2 with fail
 clear hk
 rcases hk9 with rfl|rfl|rfl|rfl|rfl|rfl
 ·go_wp2
  refine bodyPost_ret (v:= .agg #[.int .i64 0, .bool false, .slice none 0 0, .int .u64 0, .string ⟨#[]⟩, .slice none 0 0]) (by simp[results,Tryz.results9,go_sem]) rfl ?_
  exact⟨_, .none,⟨0,false,[],0,⟨#[]⟩,[]⟩,rfl,vm_flat _ _ _ _ _,canon_flat ⟨by decide,by decide⟩ (by decide) ⟨by decide,by decide⟩ rfl (fun _ _=>rfl),trivial,((Below.refl _ w).alloc (Nat.le_refl _) _).alloc (by simp) _⟩
 ·go_wp2_with (go_at_call 22;(with_reducible refine(boolVal_c _ _).mono ?_);rintro e w1 ⟨rfl,hb1⟩;have HB1:=Lib.hid hb1;obtain⟨x0,x1,x2,x3,x4,x5⟩:=cells6 (blk_below HK0.out hb1);have hfz:=fun o=>blk_free (blk_below HK0.out hb1) o;clear hb1)
  ·refine bodyPost_ret (v:= .agg #[.int .i64 1, .bool false, .slice none 0 0, .int .u64 1, .string ⟨#[]⟩, .slice none 0 0]) (by simp[results,Tryz.results9,go_sem,x0,x1,x2,x3,x4,x5]) rfl ?_
   exact⟨_, .bool true,⟨1,false,[],1,⟨#[]⟩,[]⟩,rfl,vm_flat _ _ _ _ _,canon_flat ⟨by decide,by decide⟩ (by decide) ⟨by decide,by decide⟩ rfl (fun _ _=>rfl),trivial,below6 HB0.out HB1.out _ _ _ _ _ _⟩
  ·refine bodyPost_ret (v:= .agg #[.int .i64 1, .bool false, .slice none 0 0, .int .u64 0, .string ⟨#[]⟩, .slice none 0 0]) (by simp[results,Tryz.results9,go_sem,x0,x1,x2,x3,x4,x5]) rfl ?_
   exact⟨_, .bool false,⟨1,false,[],0,⟨#[]⟩,[]⟩,rfl,vm_flat _ _ _ _ _,canon_flat ⟨by decide,by decide⟩ (by decide) ⟨by decide,by decide⟩ rfl (fun _ _=>rfl),trivial,below6 HB0.out HB1.out _ _ _ _ _ _⟩
 ·exact absurd rfl h28
 ·go_wp2
  refine bodyPost_ret (v:= .agg #[.int .i64 3, .bool false, .slice none 0 0, .int .u64 x.f3, .string ⟨#[]⟩, .slice none 0 0]) (by simp[results,Tryz.results9,go_sem]) rfl ?_
  have hb3:=HR.out.bits
  exact⟨_, .float x.f3.toNat,⟨3,false,[],x.f3,⟨#[]⟩,[]⟩,rfl,vm_flat _ _ _ _ _,canon_flat ⟨by decide,by decide⟩ (by decide) hb3 (by simp[scaOf]) (fun _ _=>rfl),(show x.f3.toNat<18446744073709551616 by omega),((Below.refl _ w).alloc (Nat.le_refl _) _).alloc (by simp) _⟩
 ·go_wp2
  ·refine bodyPost_ret (v:= .agg #[.int .i64 4, .bool false, .slice none 0 0, .int .u64 0, .string (x.f4.extract 0 60), .slice none 0 0]) (by simp[results,Tryz.results9,go_sem]) rfl ?_
   exact⟨_, .str _,⟨4,false,[],0,_,[]⟩,rfl,vm_flat _ _ _ _ _,canon_flat ⟨by decide,by decide⟩ (by decide) ⟨by decide,by decide⟩ rfl (fun h1 h2=>absurd rfl (by first|exact h1|exact h2)),(by show(x.f4.extract 0 60).size≤2147483647;rw[ByteArray.size_extract];omega),((Below.refl _ w).alloc (Nat.le_refl _) _).alloc (by simp) _⟩
  ·refine bodyPost_ret (v:= .agg #[.int .i64 4, .bool false, .slice none 0 0, .int .u64 0, .string x.f4, .slice none 0 0]) (by simp[results,Tryz.results9,go_sem]) rfl ?_
   exact⟨_, .str _,⟨4,false,[],0,_,[]⟩,rfl,vm_flat _ _ _ _ _,canon_flat ⟨by decide,by decide⟩ (by decide) ⟨by decide,by decide⟩ rfl (fun h1 h2=>absurd rfl (by first|exact h1|exact h2)),(by show x.f4.size≤2147483647;omega),((Below.refl _ w).alloc (Nat.le_refl _) _).alloc (by simp) _⟩
 ·go_wp2
  ·refine bodyPost_ret (v:= .agg #[.int .i64 5, .bool false, .slice none 0 0, .int .u64 0, .string (x.f4.extract 0 60), .slice none 0 0]) (by simp[results,Tryz.results9,go_sem]) rfl ?_
   exact⟨_, .bytes _,⟨5,false,[],0,_,[]⟩,rfl,vm_flat _ _ _ _ _,canon_flat ⟨by decide,by decide⟩ (by decide) ⟨by decide,by decide⟩ rfl (fun h1 h2=>absurd rfl (by first|exact h1|exact h2)),(by show(x.f4.extract 0 60).size≤2147483647;rw[ByteArray.size_extract];omega),((Below.refl _ w).alloc (Nat.le_refl _) _).alloc (by simp) _⟩
  ·refine bodyPost_ret (v:= .agg #[.int .i64 5, .bool false, .slice none 0 0, .int .u64 0, .string x.f4, .slice none 0 0]) (by simp[results,Tryz.results9,go_sem]) rfl ?_
   exact⟨_, .bytes _,⟨5,false,[],0,_,[]⟩,rfl,vm_flat _ _ _ _ _,canon_flat ⟨by decide,by decide⟩ (by decide) ⟨by decide,by decide⟩ rfl (fun h1 h2=>absurd rfl (by first|exact h1|exact h2)),(by show x.f4.size≤2147483647;omega),((Below.refl _ w).alloc (Nat.le_refl _) _).alloc (by simp) _⟩
end Go.Proofs.YtkplnbjgkhmbcaaGreatDoor
namespace Go.Proofs.YtkplnbjgkhmbcaaGreatDoor
open Go.RowKit Go.Shelf Go.Proofs.YtkplnbjgkhmbcaaGreatDoorW.PrintWords Go.Proofs.YtkplnbjgkhmbcaaGreatDoorW.PrintLast Go.Proofs.YtkplnbjgkhmbcaaGreatDoorW.PrintMore Go.Proofs.YtkplnbjgkhmbcaaGreatDoor.PFnCompare Go.Proofs.YtkplnbjgkhmbcaaGreatDoor.PCmp Go.Proofs.YtkplnbjgkhmbcaaGreatDoor.PbytesOf
set_option linter.unusedVariables false
set_option linter.unusedSimpArgs false
abbrev six5 (x:VT) (A2:Option Addr) (c2:Nat) (A5:Option Addr) (n5 c5:Nat):Array Value:=#[.int .i64 x.f0, .bool x.f1, .slice A2 x.f2.length c2, .int .u64 x.f3, .string x.f4, .slice A5 n5 c5]
def RawN:Nat→World→VT→Option Addr→Nat→Option Addr→Nat→Nat→Prop
 |0,w,x,A2,c2,A5,n5,c5=>RR w (.agg (six5 x A2 c2 A5 n5 c5)) x∧Raw x
 |n+1,w,x,A2,c2,A5,n5,c5=>(RR w (.agg (six5 x A2 c2 A5 n5 c5)) x∧Raw x)∧n5≤9223372036854775807∧ ∀i,i<n5→ ∃b o y P2 p2 P5 m5 p5,A5=some ⟨b,o,none⟩∧b<w.heap.size∧
   w.cell? ⟨b,o+i*6,none⟩=some (.int .i64 y.f0)∧w.cell? ⟨b,o+i*6+1,none⟩=some (.bool y.f1)∧w.cell? ⟨b,o+i*6+2,none⟩=some (.slice P2 y.f2.length p2)∧w.cell? ⟨b,o+i*6+3,none⟩=some (.int .u64 y.f3)∧w.cell? ⟨b,o+i*6+4,none⟩=some (.string y.f4)∧w.cell? ⟨b,o+i*6+5,none⟩=some (.slice P5 m5 p5)∧RawN n w y P2 p2 P5 m5 p5
theorem RawN.top {n:Nat} {w:World} {x:VT} {A2:Option Addr} {c2:Nat} {A5:Option Addr} {n5 c5:Nat} (h:RawN n w x A2 c2 A5 n5 c5):RR w (.agg (six5 x A2 c2 A5 n5 c5)) x∧Raw x:=by
 cases n with
 |zero=>exact h
 |succ n=>exact h.1
theorem RawN.below: ∀{n:Nat} {w w':World} {x:VT} {A2:Option Addr} {c2:Nat} {A5:Option Addr} {n5 c5:Nat},RawN n w x A2 c2 A5 n5 c5→Below w.heap.size w w'→RawN n w' x A2 c2 A5 n5 c5
 |0,_,_,_,_,_,_,_,_,h,hb=>⟨h.1.below hb,h.2⟩
 |n+1,_,_,_,_,_,_,_,_,h,hb=>⟨⟨h.1.1.below hb,h.1.2⟩,h.2.1,fun i hi=>by
   obtain⟨b,o,y,P2,p2,P5,m5,p5,e,hlt,k0,k1,k2,k3,k4,k5,hr⟩:=h.2.2 i hi
   exact⟨b,o,y,P2,p2,P5,m5,p5,e,Nat.lt_of_lt_of_le hlt hb.size,(hb.cell (p:=⟨b,_,none⟩) hlt).trans k0,(hb.cell (p:=⟨b,_,none⟩) hlt).trans k1,(hb.cell (p:=⟨b,_,none⟩) hlt).trans k2,(hb.cell (p:=⟨b,_,none⟩) hlt).trans k3,(hb.cell (p:=⟨b,_,none⟩) hlt).trans k4,(hb.cell (p:=⟨b,_,none⟩) hlt).trans k5,hr.below hb⟩⟩
def CleanN (n:Nat) (w:World) (e:Ending) (w':World):Prop:= ∃cs y,e= .returned (.agg (List.toArray cs))∧kV.M w' w.heap.size (fun _=>True) y cs∧CT n y∧Below w.heap.size w w'
theorem cleanN_of {n:Nat} {w:World} {e:Ending} {w':World} (h:CleanR w e w'):CleanN n w e w':=by
 obtain⟨u,s,y,rfl,⟨cs,rfl,hM⟩,hc,hf,hb⟩:=h
 exact⟨cs,y,rfl,hM,CT.sc ⟨s,hc,hf⟩ n,hb⟩
theorem kidM_new {w1 wr:World} {B:Nat} {y:VT} {cs:List Value} (h:kV.M w1 wr.heap.size (fun _=>True) y cs) (hB:B≤wr.heap.size):kV.M w1 B (fun j=>False∨wr.heap.size≤j) y cs:=
 Kd.M_lower _ hB (Kd.M_mono _ (fun j hj=>Or.inr hj.2.1) (Kd.M_bound _ h))
set_option maxRecDepth 100000 in
set_option maxHeartbeats 1000000 in
theorem cleanRow_c (m:Nat) (d d':Int) (hd: ¬d≤0) (hdd:d-1=d') (hw:IntKind.i64.wrap d'=d') (k:Int) (hk67:k=6∨k=7) (x:VT) (A2:Option Addr) (c2:Nat) (A5:Option Addr) (n5 c5:Nat) (w:World) (h:RawN (m+1) w x A2 c2 A5 n5 c5) (hk:(wrap64 (x.f0.tmod 10+10)).tmod 10=k)
 (ih: ∀(x:VT) (A2:Option Addr) (c2:Nat) (A5:Option Addr) (n5 c5:Nat) (w:World),RawN m w x A2 c2 A5 n5 c5→Calls Tryz.prog 9 #[.agg (six5 x A2 c2 A5 n5 c5), .int .i64 d'] w (CleanN m w)):
 Calls Tryz.prog 9 #[.agg (six5 x A2 c2 A5 n5 c5), .int .i64 d] w (CleanN (m+1) w):=by
 obtain⟨a0,a1,a2,a3,a4,a5⟩:=x
 dsimp only[six5] at*
 have HKM:=Lib.hid h.2.2
 have hn5:n5≤9223372036854775807:=h.2.1
 have HIH:=Lib.hid ih
 obtain⟨F,hF⟩: ∃F:Nat→Prop,F=fun j=>w.heap.size+3≤j:=⟨_,rfl⟩
 have hF1: ∀j,F j→Free w.heap.size j:=by rw[hF];intro j h;exact Or.inr h
 have hF2: ∀j,w.heap.size+3≤j→F j:=by rw[hF];intro j h;exact h
 have HFF:=Lib.hid hF
 have HF:=Lib.hid hF1
 have HF2:=Lib.hid hF2
 have hdw:IntKind.i64.wrap (d-1)=d':=by rw[hdd];exact hw
 clear hF hF1 hF2 h ih
 go_enter Tryz.func9,Tryz.ntmps9
 go_upto_region 2 with fail
 clear hk
 rcases hk67 with rfl|rfl
 ·have HT0:Hid (CB w w.heap.size F #[.int .i64 a0, .bool a1, .slice A2 a2.length c2, .int .u64 a3, .string a4, .slice A5 n5 c5] 6 (.slice none 0 0) [] (((w.alloc (.cells #[.int .i64 a0, .bool a1, .slice A2 a2.length c2, .int .u64 a3, .string a4, .slice A5 n5 c5] 26)).alloc (.cells zero6 26)).alloc (.cells #[.int .i64 6, .bool false, .slice none 0 0, .int .u64 0, .string ⟨#[]⟩, .slice none 0 0] 26))):=Lib.hid (CB.start w w.heap.size F _ 6 HF.out HF2.out)
  obtain⟨W0,hW0⟩: ∃W,W=(((w.alloc (.cells #[.int .i64 a0, .bool a1, .slice A2 a2.length c2, .int .u64 a3, .string a4, .slice A5 n5 c5] 26)).alloc (.cells zero6 26)).alloc (.cells #[.int .i64 6, .bool false, .slice none 0 0, .int .u64 0, .string ⟨#[]⟩, .slice none 0 0] 26)):=⟨_,rfl⟩
  rw[←hW0] at HT0
  go_wp2_with fail
  rw[←hW0]
  clear hW0
  go_loopw [7] (fun i wr=> ∃(j:Nat) (out:Value) (ys:List VT),j≤n5∧j≤8∧i= .int .i64 (j:Int)∧ys.length=j∧Hid (∀y∈ys,CT m y)∧Hid (CB w w.heap.size F #[.int .i64 a0, .bool a1, .slice A2 a2.length c2, .int .u64 a3, .string a4, .slice A5 n5 c5] 6 out ys wr)) (fun i _=>8-(intOf i).toNat)
  case atStart=>exact⟨0,_,[],Nat.zero_le _,by omega,rfl,rfl,Lib.hid (fun y hy=>by cases hy),HT0⟩
  case round=>
   clear HT0
   obtain⟨j,out,ys,hj,hj8,rfl,hys,HQ,HT⟩:=hrel
   by_cases hlt:j<n5∧j<8
   ·obtain⟨hl1,hl2⟩:=hlt
    have hl3:(j:Int)<8:=by omega
    obtain⟨b,o,y,P2,p2,P5,m5,p5,rfl,hb,k0,k1,k2,k3,k4,k5,hV⟩:=HKM.out j hl1
    have hB:=HT.out.low
    have x0:=(hB.cell (p:=⟨b,o+j*6,none⟩) hb).trans k0
    have x1:=(hB.cell (p:=⟨b,o+j*6+1,none⟩) hb).trans k1
    have x2:=(hB.cell (p:=⟨b,o+j*6+2,none⟩) hb).trans k2
    have x3:=(hB.cell (p:=⟨b,o+j*6+3,none⟩) hb).trans k3
    have x4:=(hB.cell (p:=⟨b,o+j*6+4,none⟩) hb).trans k4
    have x5:=(hB.cell (p:=⟨b,o+j*6+5,none⟩) hb).trans k5
    have z5:=(cells6 HT.out.b1).2.2.2.2.2
    have y5:=(cells6 HT.out.b3).2.2.2.2.2
    have hsz3:=HT.out.size
    have hsz:w.heap.size+2≤wr.heap.size:=by omega
    have hlow:w.heap.size≤wr.heap.size:=by omega
    have HC:Hid (Calls Tryz.prog 9 #[.agg (six5 y P2 p2 P5 m5 p5), .int .i64 d'] wr.drew (CleanN m wr.drew)):=Lib.hid (HIH.out y P2 p2 P5 m5 p5 wr.drew (hV.below hB.drew))
    have HBr:Hid (Below (w.heap.size+2) wr wr):=Lib.hid (Below.refl _ _)
    have HS:Hid (∀W,Below (w.heap.size+2) wr W→(W.cell? ⟨b,o+j*6,none⟩=some (.int .i64 y.f0)∧W.cell? ⟨b,o+j*6+1,none⟩=some (.bool y.f1)∧W.cell? ⟨b,o+j*6+2,none⟩=some (.slice P2 y.f2.length p2)∧W.cell? ⟨b,o+j*6+3,none⟩=some (.int .u64 y.f3)∧W.cell? ⟨b,o+j*6+4,none⟩=some (.string y.f4)∧W.cell? ⟨b,o+j*6+5,none⟩=some (.slice P5 m5 p5))∧W.cell? ⟨w.heap.size,5,none⟩=some (.slice (some ⟨b,o,none⟩) n5 c5)):=Lib.hid fun W hW=>by
     have hb2:b<w.heap.size+2:=by omega
     exact⟨⟨(hW.cell (p:=⟨b,o+j*6,none⟩) hb2).trans x0,(hW.cell (p:=⟨b,o+j*6+1,none⟩) hb2).trans x1,(hW.cell (p:=⟨b,o+j*6+2,none⟩) hb2).trans x2,(hW.cell (p:=⟨b,o+j*6+3,none⟩) hb2).trans x3,(hW.cell (p:=⟨b,o+j*6+4,none⟩) hb2).trans x4,(hW.cell (p:=⟨b,o+j*6+5,none⟩) hb2).trans x5⟩,(hW.cell (p:=⟨w.heap.size,5,none⟩) (by show w.heap.size<_;omega)).trans z5⟩
    clear k0 k1 k2 k3 k4 k5 hV hB x0 x1 x2 x3 x4 x5
    go_upto_region 20 with fail
    clear z5
    refine wp_region_held_drew (S:=fun W=>(W.cell? ⟨b,o+j*6,none⟩=some (.int .i64 y.f0)∧W.cell? ⟨b,o+j*6+1,none⟩=some (.bool y.f1)∧W.cell? ⟨b,o+j*6+2,none⟩=some (.slice P2 y.f2.length p2)∧W.cell? ⟨b,o+j*6+3,none⟩=some (.int .u64 y.f3)∧W.cell? ⟨b,o+j*6+4,none⟩=some (.string y.f4)∧W.cell? ⟨b,o+j*6+5,none⟩=some (.slice P5 m5 p5))∧W.cell? ⟨w.heap.size,5,none⟩=some (.slice (some ⟨b,o,none⟩) n5 c5)) (by kernel_rfl) (HS.out _ HBr.out.drew) (fun hHeld=>?_)
    refine wpAnyH_take (i:=0) (oi:=_) (v:=?_) rfl (by kernel_rfl) (by kernel_rfl) (by kernel_rfl) (fun _ _ _ h=>h) (Or.inl ⟨by rfl,?_⟩) (by assumption) ?_;rotate_left 1;·(intro w hSw;(try dsimp only at hSw);go_simp;first|done|with_reducible rfl)
    try simp only[Act.put,List.setIfInBounds_toArray,List.set_cons_zero,List.set_cons_succ,List.getElem_toArray,List.getElem_cons_zero,List.getElem_cons_succ]
    refine wpAnyH_take (i:=2) (oi:=_) (v:=?_) rfl (by kernel_rfl) (by kernel_rfl) (by kernel_rfl) (fun _ _ _ h=>h) (Or.inl ⟨by rfl,?_⟩) (by assumption) ?_;rotate_left 1;·(intro w hSw;(try dsimp only at hSw);go_simp;first|done|with_reducible rfl)
    try simp only[Act.put,List.setIfInBounds_toArray,List.set_cons_zero,List.set_cons_succ,List.getElem_toArray,List.getElem_cons_zero,List.getElem_cons_succ]
    refine wpAnyH_take (i:=3) (oi:=_) (v:=?_) rfl (by kernel_rfl) (by kernel_rfl) (by kernel_rfl) (fun _ _ _ h=>h) (Or.inl ⟨by rfl,?_⟩) (by assumption) ?_;rotate_left 1;·(intro w hSw;(try dsimp only at hSw);go_simp;first|done|with_reducible rfl)
    try simp only[Act.put,List.setIfInBounds_toArray,List.set_cons_zero,List.set_cons_succ,List.getElem_toArray,List.getElem_cons_zero,List.getElem_cons_succ]
    refine wpAnyH_take (i:=4) (oi:=_) (v:=?_) rfl (by kernel_rfl) (by kernel_rfl) (by kernel_rfl) (fun _ _ _ h=>h) (Or.inl ⟨by rfl,?_⟩) (by assumption) ?_;rotate_left 1;·(intro w hSw;(try dsimp only at hSw);go_simp;first|done|with_reducible rfl)
    try simp only[Act.put,List.setIfInBounds_toArray,List.set_cons_zero,List.set_cons_succ,List.getElem_toArray,List.getElem_cons_zero,List.getElem_cons_succ]
    refine wpAnyH_take (i:=5) (oi:=_) (v:=?_) rfl (by kernel_rfl) (by kernel_rfl) (by kernel_rfl) (fun _ _ _ h=>h) (Or.inl ⟨by rfl,?_⟩) (by assumption) ?_;rotate_left 1;·(intro w hSw;(try dsimp only at hSw);go_simp;first|done|with_reducible rfl)
    try simp only[Act.put,List.setIfInBounds_toArray,List.set_cons_zero,List.set_cons_succ,List.getElem_toArray,List.getElem_cons_zero,List.getElem_cons_succ]
    refine wpAnyH_take (i:=6) (oi:=_) (v:=?_) rfl (by kernel_rfl) (by kernel_rfl) (by kernel_rfl) (fun _ _ _ h=>h) (Or.inl ⟨by rfl,?_⟩) (by assumption) ?_;rotate_left 1;·(intro w hSw;(try dsimp only at hSw);go_simp;first|done|with_reducible rfl)
    try simp only[Act.put,List.setIfInBounds_toArray,List.set_cons_zero,List.set_cons_succ,List.getElem_toArray,List.getElem_cons_zero,List.getElem_cons_succ]
    refine wpAnyH_take (i:=7) (oi:=_) (v:=?_) rfl (by kernel_rfl) (by kernel_rfl) (by kernel_rfl) (fun _ _ _ h=>h) (Or.inl ⟨by rfl,?_⟩) (by assumption) ?_;rotate_left 1;·(intro w hSw;(try dsimp only at hSw);go_simp;first|done|with_reducible rfl)
    try simp only[Act.put,List.setIfInBounds_toArray,List.set_cons_zero,List.set_cons_succ,List.getElem_toArray,List.getElem_cons_zero,List.getElem_cons_succ]
    refine wpAnyH_take (i:=8) (oi:=_) (v:=?_) rfl (by kernel_rfl) (by kernel_rfl) (by kernel_rfl) (fun _ _ _ h=>h) (Or.inl ⟨by rfl,?_⟩) (by assumption) ?_;rotate_left 1;·(intro w hSw;(try dsimp only at hSw);go_simp;first|done|with_reducible rfl)
    try simp only[Act.put,List.setIfInBounds_toArray,List.set_cons_zero,List.set_cons_succ,List.getElem_toArray,List.getElem_cons_zero,List.getElem_cons_succ]
    refine wpAnyH_ready (rs:=[1,9]) (by kernel_rfl) (by simp) ?_
    refine AllReadyH.cons (o:=_) rfl (fun K hK=>?_) (AllReadyH.cons (o:=_) rfl (fun K hK=>?_) AllReadyH.nil)
    ·go_simp
     refine hK.out _ _ (HS.out _ HBr.out.drew) (fun hHeld=>?_)
     clear hK K
     try simp only[Act.put,List.setIfInBounds_toArray,List.set_cons_zero,List.set_cons_succ,List.getElem_toArray,List.getElem_cons_zero,List.getElem_cons_succ]
     refine wpAnyH_ready (rs:=[9]) (by kernel_rfl) (by simp) ?_
     refine AllReadyH.cons (o:=_) rfl (fun K hK=>?_) AllReadyH.nil
     go_simp;go_at_call 9;(with_reducible refine HC.out.mono ?_);rintro e w1 ⟨cs1,y1,rfl,hM,hct,hb1⟩;obtain⟨Q2,q2,Q5,q5,rfl⟩:=m_shape hM;have HV:=Lib.hid (HT.out.drewed.app (okk:=fun _=>False) hb1 (kidM_new hM hlow) (fun _ h=>h.elim) (Nat.le_refl _));have HCT:=Lib.hid hct;have HB1:=Lib.hid (HBr.out.drew.trans (hb1.mono hsz));have t5:=(cells6 HV.out.2.2.2.2.2.2.b3).2.2.2.2.2;have tA: ∀o,(w1.alloc o).cell? ⟨w.heap.size+2,5,none⟩=some out:=fun o=>(cells6 (blk_alloc HV.out.2.2.2.2.2.2.b3 o)).2.2.2.2.2;clear hM hct hb1
     refine hK.out _ _ (HS.out _ HB1.out) (fun hHeld=>?_)
     clear hK K
     try simp only[Act.put,List.setIfInBounds_toArray,List.set_cons_zero,List.set_cons_succ,List.getElem_toArray,List.getElem_cons_zero,List.getElem_cons_succ]
     refine wpAnyH_ready (rs:=[10]) (by kernel_rfl) (by simp) ?_
     refine AllReadyH.cons (o:=_) rfl (fun K hK=>?_) AllReadyH.nil
     go_simp
     refine hK.out _ _ (HS.out _ (HB1.out.alloc (Nat.le_trans hsz HB1.out.size) _)) (fun hHeld=>?_)
     clear hK K
     try simp only[Act.put,List.setIfInBounds_toArray,List.set_cons_zero,List.set_cons_succ,List.getElem_toArray,List.getElem_cons_zero,List.getElem_cons_succ]
     refine wpAnyH_ready (rs:=[11]) (by kernel_rfl) (by simp) ?_
     refine AllReadyH.cons (o:=_) rfl (fun K hK=>?_) AllReadyH.nil
     refine Kd.R_append_step kV (w0:=w1) w.heap.size rfl (.tmp 76) (.tmp 85) 24 26 (.agg zero6) 88 rfl Tryz.underlying24 vInfo rfl (by decide) (by omega) out ys y1 _ F _ rfl rfl HV.out.1 HV.out.2.1 HV.out.2.2.1 HV.out.2.2.2.1 HV.out.2.2.2.2.1 HV.out.2.2.2.2.2.1 (by omega) ?_;intro v1 w2 hr2 hb2 hg hat;obtain⟨Av,cv,rfl⟩:=Kd.R_slice hr2;have HP:=Lib.hid (HV.out.2.2.2.2.2.2.push hr2 hg hat);have hz2:=HV.out.2.2.2.2.2.2.third hg;have HB2:=Lib.hid (HV.out.2.2.2.2.2.2.keeps hg HB1.out);have u5:=(cells6 hz2).2.2.2.2.2;have uz:=blk_free hz2;clear hr2 hb2 hg hat hz2
     refine hK.out _ _ (HS.out _ HB2.out) (fun hHeld=>?_)
     clear hK K
     try simp only[Act.put,List.setIfInBounds_toArray,List.set_cons_zero,List.set_cons_succ,List.getElem_toArray,List.getElem_cons_zero,List.getElem_cons_succ]
     refine wpAnyH_take (i:=12) (oi:=_) (v:=?_) rfl (by kernel_rfl) (by kernel_rfl) (by kernel_rfl) (fun _ _ _ h=>h) (Or.inl ⟨by rfl,?_⟩) (by assumption) ?_;rotate_left 1;·(intro w hSw;(try dsimp only at hSw);go_simp;first|done|with_reducible rfl)
     try simp only[Act.put,List.setIfInBounds_toArray,List.set_cons_zero,List.set_cons_succ,List.getElem_toArray,List.getElem_cons_zero,List.getElem_cons_succ]
     refine wpAnyH_ready (rs:=[13]) (by kernel_rfl) (by simp) ?_
     refine AllReadyH.cons (o:=_) rfl (fun K hK=>?_) AllReadyH.nil
     go_simp
     refine hK.out _ _ (HS.out _ (HB2.out.setCell (p:=⟨w.heap.size+2,5,none⟩) (Nat.le_refl _) _)) (fun hHeld=>?_)
     clear hK K
     try simp only[Act.put,List.setIfInBounds_toArray,List.set_cons_zero,List.set_cons_succ,List.getElem_toArray,List.getElem_cons_zero,List.getElem_cons_succ]
     refine wpAnyH_done (by kernel_rfl) ?_ _
     go_wp2
     go_roundw
     case rel=>exact⟨j+1,_,ys++[y1],by omega,by omega,by go_num,by simp[hys],Lib.hid (fun q hq=>by rcases List.mem_append.1 hq with h|h;exact HQ.out q h;rw[List.mem_singleton] at h;rw[h];exact HCT.out),Lib.hid (cb_len HP.out (by simp[hys]))⟩
     case measure=>simp[intOf];omega
    ·go_simp;go_at_call 9;(with_reducible refine HC.out.mono ?_);rintro e w1 ⟨cs1,y1,rfl,hM,hct,hb1⟩;obtain⟨Q2,q2,Q5,q5,rfl⟩:=m_shape hM;have HV:=Lib.hid (HT.out.drewed.app (okk:=fun _=>False) hb1 (kidM_new hM hlow) (fun _ h=>h.elim) (Nat.le_refl _));have HCT:=Lib.hid hct;have HB1:=Lib.hid (HBr.out.drew.trans (hb1.mono hsz));have t5:=(cells6 HV.out.2.2.2.2.2.2.b3).2.2.2.2.2;have tA: ∀o,(w1.alloc o).cell? ⟨w.heap.size+2,5,none⟩=some out:=fun o=>(cells6 (blk_alloc HV.out.2.2.2.2.2.2.b3 o)).2.2.2.2.2;clear hM hct hb1
     refine hK.out _ _ (HS.out _ HB1.out) (fun hHeld=>?_)
     clear hK K
     try simp only[Act.put,List.setIfInBounds_toArray,List.set_cons_zero,List.set_cons_succ,List.getElem_toArray,List.getElem_cons_zero,List.getElem_cons_succ]
     refine wpAnyH_ready (rs:=[1,10]) (by kernel_rfl) (by simp) ?_
     refine AllReadyH.cons (o:=_) rfl (fun K hK=>?_) (AllReadyH.cons (o:=_) rfl (fun K hK=>?_) AllReadyH.nil)
     ·go_simp
      refine hK.out _ _ (HS.out _ HB1.out) (fun hHeld=>?_)
      clear hK K
      try simp only[Act.put,List.setIfInBounds_toArray,List.set_cons_zero,List.set_cons_succ,List.getElem_toArray,List.getElem_cons_zero,List.getElem_cons_succ]
      refine wpAnyH_ready (rs:=[10]) (by kernel_rfl) (by simp) ?_
      refine AllReadyH.cons (o:=_) rfl (fun K hK=>?_) AllReadyH.nil
      go_simp
      refine hK.out _ _ (HS.out _ (HB1.out.alloc (Nat.le_trans hsz HB1.out.size) _)) (fun hHeld=>?_)
      clear hK K
      try simp only[Act.put,List.setIfInBounds_toArray,List.set_cons_zero,List.set_cons_succ,List.getElem_toArray,List.getElem_cons_zero,List.getElem_cons_succ]
      refine wpAnyH_ready (rs:=[11]) (by kernel_rfl) (by simp) ?_
      refine AllReadyH.cons (o:=_) rfl (fun K hK=>?_) AllReadyH.nil
      refine Kd.R_append_step kV (w0:=w1) w.heap.size rfl (.tmp 76) (.tmp 85) 24 26 (.agg zero6) 88 rfl Tryz.underlying24 vInfo rfl (by decide) (by omega) out ys y1 _ F _ rfl rfl HV.out.1 HV.out.2.1 HV.out.2.2.1 HV.out.2.2.2.1 HV.out.2.2.2.2.1 HV.out.2.2.2.2.2.1 (by omega) ?_;intro v1 w2 hr2 hb2 hg hat;obtain⟨Av,cv,rfl⟩:=Kd.R_slice hr2;have HP:=Lib.hid (HV.out.2.2.2.2.2.2.push hr2 hg hat);have hz2:=HV.out.2.2.2.2.2.2.third hg;have HB2:=Lib.hid (HV.out.2.2.2.2.2.2.keeps hg HB1.out);have u5:=(cells6 hz2).2.2.2.2.2;have uz:=blk_free hz2;clear hr2 hb2 hg hat hz2
      refine hK.out _ _ (HS.out _ HB2.out) (fun hHeld=>?_)
      clear hK K
      try simp only[Act.put,List.setIfInBounds_toArray,List.set_cons_zero,List.set_cons_succ,List.getElem_toArray,List.getElem_cons_zero,List.getElem_cons_succ]
      refine wpAnyH_take (i:=12) (oi:=_) (v:=?_) rfl (by kernel_rfl) (by kernel_rfl) (by kernel_rfl) (fun _ _ _ h=>h) (Or.inl ⟨by rfl,?_⟩) (by assumption) ?_;rotate_left 1;·(intro w hSw;(try dsimp only at hSw);go_simp;first|done|with_reducible rfl)
      try simp only[Act.put,List.setIfInBounds_toArray,List.set_cons_zero,List.set_cons_succ,List.getElem_toArray,List.getElem_cons_zero,List.getElem_cons_succ]
      refine wpAnyH_ready (rs:=[13]) (by kernel_rfl) (by simp) ?_
      refine AllReadyH.cons (o:=_) rfl (fun K hK=>?_) AllReadyH.nil
      go_simp
      refine hK.out _ _ (HS.out _ (HB2.out.setCell (p:=⟨w.heap.size+2,5,none⟩) (Nat.le_refl _) _)) (fun hHeld=>?_)
      clear hK K
      try simp only[Act.put,List.setIfInBounds_toArray,List.set_cons_zero,List.set_cons_succ,List.getElem_toArray,List.getElem_cons_zero,List.getElem_cons_succ]
      refine wpAnyH_done (by kernel_rfl) ?_ _
      go_wp2
      go_roundw
      case rel=>exact⟨j+1,_,ys++[y1],by omega,by omega,by go_num,by simp[hys],Lib.hid (fun q hq=>by rcases List.mem_append.1 hq with h|h;exact HQ.out q h;rw[List.mem_singleton] at h;rw[h];exact HCT.out),Lib.hid (cb_len HP.out (by simp[hys]))⟩
      case measure=>simp[intOf];omega
     ·go_simp
      refine hK.out _ _ (HS.out _ (HB1.out.alloc (Nat.le_trans hsz HB1.out.size) _)) (fun hHeld=>?_)
      clear hK K
      try simp only[Act.put,List.setIfInBounds_toArray,List.set_cons_zero,List.set_cons_succ,List.getElem_toArray,List.getElem_cons_zero,List.getElem_cons_succ]
      refine wpAnyH_ready (rs:=[1]) (by kernel_rfl) (by simp) ?_
      refine AllReadyH.cons (o:=_) rfl (fun K hK=>?_) AllReadyH.nil
      go_simp
      refine hK.out _ _ (HS.out _ (HB1.out.alloc (Nat.le_trans hsz HB1.out.size) _)) (fun hHeld=>?_)
      clear hK K
      try simp only[Act.put,List.setIfInBounds_toArray,List.set_cons_zero,List.set_cons_succ,List.getElem_toArray,List.getElem_cons_zero,List.getElem_cons_succ]
      refine wpAnyH_ready (rs:=[11]) (by kernel_rfl) (by simp) ?_
      refine AllReadyH.cons (o:=_) rfl (fun K hK=>?_) AllReadyH.nil
      refine Kd.R_append_step kV (w0:=w1) w.heap.size rfl (.tmp 76) (.tmp 85) 24 26 (.agg zero6) 88 rfl Tryz.underlying24 vInfo rfl (by decide) (by omega) out ys y1 _ F _ rfl rfl HV.out.1 HV.out.2.1 HV.out.2.2.1 HV.out.2.2.2.1 HV.out.2.2.2.2.1 HV.out.2.2.2.2.2.1 (by omega) ?_;intro v1 w2 hr2 hb2 hg hat;obtain⟨Av,cv,rfl⟩:=Kd.R_slice hr2;have HP:=Lib.hid (HV.out.2.2.2.2.2.2.push hr2 hg hat);have hz2:=HV.out.2.2.2.2.2.2.third hg;have HB2:=Lib.hid (HV.out.2.2.2.2.2.2.keeps hg HB1.out);have u5:=(cells6 hz2).2.2.2.2.2;have uz:=blk_free hz2;clear hr2 hb2 hg hat hz2
      refine hK.out _ _ (HS.out _ HB2.out) (fun hHeld=>?_)
      clear hK K
      try simp only[Act.put,List.setIfInBounds_toArray,List.set_cons_zero,List.set_cons_succ,List.getElem_toArray,List.getElem_cons_zero,List.getElem_cons_succ]
      refine wpAnyH_take (i:=12) (oi:=_) (v:=?_) rfl (by kernel_rfl) (by kernel_rfl) (by kernel_rfl) (fun _ _ _ h=>h) (Or.inl ⟨by rfl,?_⟩) (by assumption) ?_;rotate_left 1;·(intro w hSw;(try dsimp only at hSw);go_simp;first|done|with_reducible rfl)
      try simp only[Act.put,List.setIfInBounds_toArray,List.set_cons_zero,List.set_cons_succ,List.getElem_toArray,List.getElem_cons_zero,List.getElem_cons_succ]
      refine wpAnyH_ready (rs:=[13]) (by kernel_rfl) (by simp) ?_
      refine AllReadyH.cons (o:=_) rfl (fun K hK=>?_) AllReadyH.nil
      go_simp
      refine hK.out _ _ (HS.out _ (HB2.out.setCell (p:=⟨w.heap.size+2,5,none⟩) (Nat.le_refl _) _)) (fun hHeld=>?_)
      clear hK K
      try simp only[Act.put,List.setIfInBounds_toArray,List.set_cons_zero,List.set_cons_succ,List.getElem_toArray,List.getElem_cons_zero,List.getElem_cons_succ]
      refine wpAnyH_done (by kernel_rfl) ?_ _
      go_wp2
      go_roundw
      case rel=>exact⟨j+1,_,ys++[y1],by omega,by omega,by go_num,by simp[hys],Lib.hid (fun q hq=>by rcases List.mem_append.1 hq with h|h;exact HQ.out q h;rw[List.mem_singleton] at h;rw[h];exact HCT.out),Lib.hid (cb_len HP.out (by simp[hys]))⟩
      case measure=>simp[intOf];omega
   ·obtain⟨Ao,Lo,co,rfl⟩: ∃A L c,out= .slice A L c:=by obtain⟨A,c,e⟩:=Kd.R_slice HT.out.row;exact⟨A,_,c,e⟩
    obtain⟨z0,z1,z2,z3,z4,z5⟩:=cells6 HT.out.b1
    obtain⟨y0,y1,y2,y3,y4,y5⟩:=cells6 HT.out.b2
    obtain⟨x0,x1,x2,x3,x4,x5⟩:=cells6 HT.out.b3
    have yz:=blk_free HT.out.b2
    by_cases hl1:j<n5
    all_goals
     have hl2: ¬((j:Int)<n5)∨ ¬((j:Int)<8):=by omega
     first
      |have hl3: ¬((j:Int)<8):=by omega
      |have hl4: ¬((j:Int)<n5):=by omega
     go_wp2
     refine bodyPost_ret (v:= .agg #[.int .i64 6, .bool false, .slice none 0 0, .int .u64 0, .string ⟨#[]⟩, .slice Ao Lo co]) (by simp[results,Tryz.results9,go_sem,y0,y1,y2,y3,y4,y5]) rfl ?_
     obtain⟨hM,hb⟩:=HT.out.final (.int .i64 6) (.bool false) (.slice none 0 0) (.int .u64 0) (.string ⟨#[]⟩) (.slice Ao Lo co)
     exact⟨_,⟨6,false,[],0,⟨#[]⟩,ys⟩,rfl,Kd.M_mono _ (fun q hq=>trivial) hM,Or.inr ⟨⟨rfl,rfl,rfl,rfl⟩,(by show ys.length≤16;omega),HQ.out,by first|exact Or.inl rfl|exact Or.inr (Or.inl rfl)⟩,hb⟩
 ·have HT0:Hid (CB w w.heap.size F #[.int .i64 a0, .bool a1, .slice A2 a2.length c2, .int .u64 a3, .string a4, .slice A5 n5 c5] 7 (.slice none 0 0) [] (((w.alloc (.cells #[.int .i64 a0, .bool a1, .slice A2 a2.length c2, .int .u64 a3, .string a4, .slice A5 n5 c5] 26)).alloc (.cells zero6 26)).alloc (.cells #[.int .i64 7, .bool false, .slice none 0 0, .int .u64 0, .string ⟨#[]⟩, .slice none 0 0] 26))):=Lib.hid (CB.start w w.heap.size F _ 7 HF.out HF2.out)
  obtain⟨W0,hW0⟩: ∃W,W=(((w.alloc (.cells #[.int .i64 a0, .bool a1, .slice A2 a2.length c2, .int .u64 a3, .string a4, .slice A5 n5 c5] 26)).alloc (.cells zero6 26)).alloc (.cells #[.int .i64 7, .bool false, .slice none 0 0, .int .u64 0, .string ⟨#[]⟩, .slice none 0 0] 26)):=⟨_,rfl⟩
  rw[←hW0] at HT0
  go_wp2_with fail
  rw[←hW0]
  clear hW0
  go_loopw [7] (fun i wr=> ∃(j:Nat) (out:Value) (ys:List VT),j≤n5∧j≤8∧i= .int .i64 (j:Int)∧ys.length=j∧Hid (∀y∈ys,CT m y)∧Hid (CB w w.heap.size F #[.int .i64 a0, .bool a1, .slice A2 a2.length c2, .int .u64 a3, .string a4, .slice A5 n5 c5] 7 out ys wr)) (fun i _=>8-(intOf i).toNat)
  case atStart=>exact⟨0,_,[],Nat.zero_le _,by omega,rfl,rfl,Lib.hid (fun y hy=>by cases hy),HT0⟩
  case round=>
   clear HT0
   obtain⟨j,out,ys,hj,hj8,rfl,hys,HQ,HT⟩:=hrel
   by_cases hlt:j<n5∧j<8
   ·obtain⟨hl1,hl2⟩:=hlt
    have hl3:(j:Int)<8:=by omega
    obtain⟨b,o,y,P2,p2,P5,m5,p5,rfl,hb,k0,k1,k2,k3,k4,k5,hV⟩:=HKM.out j hl1
    have hB:=HT.out.low
    have x0:=(hB.cell (p:=⟨b,o+j*6,none⟩) hb).trans k0
    have x1:=(hB.cell (p:=⟨b,o+j*6+1,none⟩) hb).trans k1
    have x2:=(hB.cell (p:=⟨b,o+j*6+2,none⟩) hb).trans k2
    have x3:=(hB.cell (p:=⟨b,o+j*6+3,none⟩) hb).trans k3
    have x4:=(hB.cell (p:=⟨b,o+j*6+4,none⟩) hb).trans k4
    have x5:=(hB.cell (p:=⟨b,o+j*6+5,none⟩) hb).trans k5
    have z5:=(cells6 HT.out.b1).2.2.2.2.2
    have y5:=(cells6 HT.out.b3).2.2.2.2.2
    have hsz3:=HT.out.size
    have hsz:w.heap.size+2≤wr.heap.size:=by omega
    have hlow:w.heap.size≤wr.heap.size:=by omega
    have HC:Hid (Calls Tryz.prog 9 #[.agg (six5 y P2 p2 P5 m5 p5), .int .i64 d'] wr.drew (CleanN m wr.drew)):=Lib.hid (HIH.out y P2 p2 P5 m5 p5 wr.drew (hV.below hB.drew))
    have HBr:Hid (Below (w.heap.size+2) wr wr):=Lib.hid (Below.refl _ _)
    have HS:Hid (∀W,Below (w.heap.size+2) wr W→(W.cell? ⟨b,o+j*6,none⟩=some (.int .i64 y.f0)∧W.cell? ⟨b,o+j*6+1,none⟩=some (.bool y.f1)∧W.cell? ⟨b,o+j*6+2,none⟩=some (.slice P2 y.f2.length p2)∧W.cell? ⟨b,o+j*6+3,none⟩=some (.int .u64 y.f3)∧W.cell? ⟨b,o+j*6+4,none⟩=some (.string y.f4)∧W.cell? ⟨b,o+j*6+5,none⟩=some (.slice P5 m5 p5))∧W.cell? ⟨w.heap.size,5,none⟩=some (.slice (some ⟨b,o,none⟩) n5 c5)):=Lib.hid fun W hW=>by
     have hb2:b<w.heap.size+2:=by omega
     exact⟨⟨(hW.cell (p:=⟨b,o+j*6,none⟩) hb2).trans x0,(hW.cell (p:=⟨b,o+j*6+1,none⟩) hb2).trans x1,(hW.cell (p:=⟨b,o+j*6+2,none⟩) hb2).trans x2,(hW.cell (p:=⟨b,o+j*6+3,none⟩) hb2).trans x3,(hW.cell (p:=⟨b,o+j*6+4,none⟩) hb2).trans x4,(hW.cell (p:=⟨b,o+j*6+5,none⟩) hb2).trans x5⟩,(hW.cell (p:=⟨w.heap.size,5,none⟩) (by show w.heap.size<_;omega)).trans z5⟩
    clear k0 k1 k2 k3 k4 k5 hV hB x0 x1 x2 x3 x4 x5
    go_upto_region 20 with fail
    clear z5
    refine wp_region_held_drew (S:=fun W=>(W.cell? ⟨b,o+j*6,none⟩=some (.int .i64 y.f0)∧W.cell? ⟨b,o+j*6+1,none⟩=some (.bool y.f1)∧W.cell? ⟨b,o+j*6+2,none⟩=some (.slice P2 y.f2.length p2)∧W.cell? ⟨b,o+j*6+3,none⟩=some (.int .u64 y.f3)∧W.cell? ⟨b,o+j*6+4,none⟩=some (.string y.f4)∧W.cell? ⟨b,o+j*6+5,none⟩=some (.slice P5 m5 p5))∧W.cell? ⟨w.heap.size,5,none⟩=some (.slice (some ⟨b,o,none⟩) n5 c5)) (by kernel_rfl) (HS.out _ HBr.out.drew) (fun hHeld=>?_)
    refine wpAnyH_take (i:=0) (oi:=_) (v:=?_) rfl (by kernel_rfl) (by kernel_rfl) (by kernel_rfl) (fun _ _ _ h=>h) (Or.inl ⟨by rfl,?_⟩) (by assumption) ?_;rotate_left 1;·(intro w hSw;(try dsimp only at hSw);go_simp;first|done|with_reducible rfl)
    try simp only[Act.put,List.setIfInBounds_toArray,List.set_cons_zero,List.set_cons_succ,List.getElem_toArray,List.getElem_cons_zero,List.getElem_cons_succ]
    refine wpAnyH_take (i:=2) (oi:=_) (v:=?_) rfl (by kernel_rfl) (by kernel_rfl) (by kernel_rfl) (fun _ _ _ h=>h) (Or.inl ⟨by rfl,?_⟩) (by assumption) ?_;rotate_left 1;·(intro w hSw;(try dsimp only at hSw);go_simp;first|done|with_reducible rfl)
    try simp only[Act.put,List.setIfInBounds_toArray,List.set_cons_zero,List.set_cons_succ,List.getElem_toArray,List.getElem_cons_zero,List.getElem_cons_succ]
    refine wpAnyH_take (i:=3) (oi:=_) (v:=?_) rfl (by kernel_rfl) (by kernel_rfl) (by kernel_rfl) (fun _ _ _ h=>h) (Or.inl ⟨by rfl,?_⟩) (by assumption) ?_;rotate_left 1;·(intro w hSw;(try dsimp only at hSw);go_simp;first|done|with_reducible rfl)
    try simp only[Act.put,List.setIfInBounds_toArray,List.set_cons_zero,List.set_cons_succ,List.getElem_toArray,List.getElem_cons_zero,List.getElem_cons_succ]
    refine wpAnyH_take (i:=4) (oi:=_) (v:=?_) rfl (by kernel_rfl) (by kernel_rfl) (by kernel_rfl) (fun _ _ _ h=>h) (Or.inl ⟨by rfl,?_⟩) (by assumption) ?_;rotate_left 1;·(intro w hSw;(try dsimp only at hSw);go_simp;first|done|with_reducible rfl)
    try simp only[Act.put,List.setIfInBounds_toArray,List.set_cons_zero,List.set_cons_succ,List.getElem_toArray,List.getElem_cons_zero,List.getElem_cons_succ]
    refine wpAnyH_take (i:=5) (oi:=_) (v:=?_) rfl (by kernel_rfl) (by kernel_rfl) (by kernel_rfl) (fun _ _ _ h=>h) (Or.inl ⟨by rfl,?_⟩) (by assumption) ?_;rotate_left 1;·(intro w hSw;(try dsimp only at hSw);go_simp;first|done|with_reducible rfl)
    try simp only[Act.put,List.setIfInBounds_toArray,List.set_cons_zero,List.set_cons_succ,List.getElem_toArray,List.getElem_cons_zero,List.getElem_cons_succ]
    refine wpAnyH_take (i:=6) (oi:=_) (v:=?_) rfl (by kernel_rfl) (by kernel_rfl) (by kernel_rfl) (fun _ _ _ h=>h) (Or.inl ⟨by rfl,?_⟩) (by assumption) ?_;rotate_left 1;·(intro w hSw;(try dsimp only at hSw);go_simp;first|done|with_reducible rfl)
    try simp only[Act.put,List.setIfInBounds_toArray,List.set_cons_zero,List.set_cons_succ,List.getElem_toArray,List.getElem_cons_zero,List.getElem_cons_succ]
    refine wpAnyH_take (i:=7) (oi:=_) (v:=?_) rfl (by kernel_rfl) (by kernel_rfl) (by kernel_rfl) (fun _ _ _ h=>h) (Or.inl ⟨by rfl,?_⟩) (by assumption) ?_;rotate_left 1;·(intro w hSw;(try dsimp only at hSw);go_simp;first|done|with_reducible rfl)
    try simp only[Act.put,List.setIfInBounds_toArray,List.set_cons_zero,List.set_cons_succ,List.getElem_toArray,List.getElem_cons_zero,List.getElem_cons_succ]
    refine wpAnyH_take (i:=8) (oi:=_) (v:=?_) rfl (by kernel_rfl) (by kernel_rfl) (by kernel_rfl) (fun _ _ _ h=>h) (Or.inl ⟨by rfl,?_⟩) (by assumption) ?_;rotate_left 1;·(intro w hSw;(try dsimp only at hSw);go_simp;first|done|with_reducible rfl)
    try simp only[Act.put,List.setIfInBounds_toArray,List.set_cons_zero,List.set_cons_succ,List.getElem_toArray,List.getElem_cons_zero,List.getElem_cons_succ]
    refine wpAnyH_ready (rs:=[1,9]) (by kernel_rfl) (by simp) ?_
    refine AllReadyH.cons (o:=_) rfl (fun K hK=>?_) (AllReadyH.cons (o:=_) rfl (fun K hK=>?_) AllReadyH.nil)
    ·go_simp
     refine hK.out _ _ (HS.out _ HBr.out.drew) (fun hHeld=>?_)
     clear hK K
     try simp only[Act.put,List.setIfInBounds_toArray,List.set_cons_zero,List.set_cons_succ,List.getElem_toArray,List.getElem_cons_zero,List.getElem_cons_succ]
     refine wpAnyH_ready (rs:=[9]) (by kernel_rfl) (by simp) ?_
     refine AllReadyH.cons (o:=_) rfl (fun K hK=>?_) AllReadyH.nil
     go_simp;go_at_call 9;(with_reducible refine HC.out.mono ?_);rintro e w1 ⟨cs1,y1,rfl,hM,hct,hb1⟩;obtain⟨Q2,q2,Q5,q5,rfl⟩:=m_shape hM;have HV:=Lib.hid (HT.out.drewed.app (okk:=fun _=>False) hb1 (kidM_new hM hlow) (fun _ h=>h.elim) (Nat.le_refl _));have HCT:=Lib.hid hct;have HB1:=Lib.hid (HBr.out.drew.trans (hb1.mono hsz));have t5:=(cells6 HV.out.2.2.2.2.2.2.b3).2.2.2.2.2;have tA: ∀o,(w1.alloc o).cell? ⟨w.heap.size+2,5,none⟩=some out:=fun o=>(cells6 (blk_alloc HV.out.2.2.2.2.2.2.b3 o)).2.2.2.2.2;clear hM hct hb1
     refine hK.out _ _ (HS.out _ HB1.out) (fun hHeld=>?_)
     clear hK K
     try simp only[Act.put,List.setIfInBounds_toArray,List.set_cons_zero,List.set_cons_succ,List.getElem_toArray,List.getElem_cons_zero,List.getElem_cons_succ]
     refine wpAnyH_ready (rs:=[10]) (by kernel_rfl) (by simp) ?_
     refine AllReadyH.cons (o:=_) rfl (fun K hK=>?_) AllReadyH.nil
     go_simp
     refine hK.out _ _ (HS.out _ (HB1.out.alloc (Nat.le_trans hsz HB1.out.size) _)) (fun hHeld=>?_)
     clear hK K
     try simp only[Act.put,List.setIfInBounds_toArray,List.set_cons_zero,List.set_cons_succ,List.getElem_toArray,List.getElem_cons_zero,List.getElem_cons_succ]
     refine wpAnyH_ready (rs:=[11]) (by kernel_rfl) (by simp) ?_
     refine AllReadyH.cons (o:=_) rfl (fun K hK=>?_) AllReadyH.nil
     refine Kd.R_append_step kV (w0:=w1) w.heap.size rfl (.tmp 76) (.tmp 85) 24 26 (.agg zero6) 88 rfl Tryz.underlying24 vInfo rfl (by decide) (by omega) out ys y1 _ F _ rfl rfl HV.out.1 HV.out.2.1 HV.out.2.2.1 HV.out.2.2.2.1 HV.out.2.2.2.2.1 HV.out.2.2.2.2.2.1 (by omega) ?_;intro v1 w2 hr2 hb2 hg hat;obtain⟨Av,cv,rfl⟩:=Kd.R_slice hr2;have HP:=Lib.hid (HV.out.2.2.2.2.2.2.push hr2 hg hat);have hz2:=HV.out.2.2.2.2.2.2.third hg;have HB2:=Lib.hid (HV.out.2.2.2.2.2.2.keeps hg HB1.out);have u5:=(cells6 hz2).2.2.2.2.2;have uz:=blk_free hz2;clear hr2 hb2 hg hat hz2
     refine hK.out _ _ (HS.out _ HB2.out) (fun hHeld=>?_)
     clear hK K
     try simp only[Act.put,List.setIfInBounds_toArray,List.set_cons_zero,List.set_cons_succ,List.getElem_toArray,List.getElem_cons_zero,List.getElem_cons_succ]
     refine wpAnyH_take (i:=12) (oi:=_) (v:=?_) rfl (by kernel_rfl) (by kernel_rfl) (by kernel_rfl) (fun _ _ _ h=>h) (Or.inl ⟨by rfl,?_⟩) (by assumption) ?_;rotate_left 1;·(intro w hSw;(try dsimp only at hSw);go_simp;first|done|with_reducible rfl)
     try simp only[Act.put,List.setIfInBounds_toArray,List.set_cons_zero,List.set_cons_succ,List.getElem_toArray,List.getElem_cons_zero,List.getElem_cons_succ]
     refine wpAnyH_ready (rs:=[13]) (by kernel_rfl) (by simp) ?_
     refine AllReadyH.cons (o:=_) rfl (fun K hK=>?_) AllReadyH.nil
     go_simp
     refine hK.out _ _ (HS.out _ (HB2.out.setCell (p:=⟨w.heap.size+2,5,none⟩) (Nat.le_refl _) _)) (fun hHeld=>?_)
     clear hK K
     try simp only[Act.put,List.setIfInBounds_toArray,List.set_cons_zero,List.set_cons_succ,List.getElem_toArray,List.getElem_cons_zero,List.getElem_cons_succ]
     refine wpAnyH_done (by kernel_rfl) ?_ _
     go_wp2
     go_roundw
     case rel=>exact⟨j+1,_,ys++[y1],by omega,by omega,by go_num,by simp[hys],Lib.hid (fun q hq=>by rcases List.mem_append.1 hq with h|h;exact HQ.out q h;rw[List.mem_singleton] at h;rw[h];exact HCT.out),Lib.hid (cb_len HP.out (by simp[hys]))⟩
     case measure=>simp[intOf];omega
    ·go_simp;go_at_call 9;(with_reducible refine HC.out.mono ?_);rintro e w1 ⟨cs1,y1,rfl,hM,hct,hb1⟩;obtain⟨Q2,q2,Q5,q5,rfl⟩:=m_shape hM;have HV:=Lib.hid (HT.out.drewed.app (okk:=fun _=>False) hb1 (kidM_new hM hlow) (fun _ h=>h.elim) (Nat.le_refl _));have HCT:=Lib.hid hct;have HB1:=Lib.hid (HBr.out.drew.trans (hb1.mono hsz));have t5:=(cells6 HV.out.2.2.2.2.2.2.b3).2.2.2.2.2;have tA: ∀o,(w1.alloc o).cell? ⟨w.heap.size+2,5,none⟩=some out:=fun o=>(cells6 (blk_alloc HV.out.2.2.2.2.2.2.b3 o)).2.2.2.2.2;clear hM hct hb1
     refine hK.out _ _ (HS.out _ HB1.out) (fun hHeld=>?_)
     clear hK K
     try simp only[Act.put,List.setIfInBounds_toArray,List.set_cons_zero,List.set_cons_succ,List.getElem_toArray,List.getElem_cons_zero,List.getElem_cons_succ]
     refine wpAnyH_ready (rs:=[1,10]) (by kernel_rfl) (by simp) ?_
     refine AllReadyH.cons (o:=_) rfl (fun K hK=>?_) (AllReadyH.cons (o:=_) rfl (fun K hK=>?_) AllReadyH.nil)
     ·go_simp
      refine hK.out _ _ (HS.out _ HB1.out) (fun hHeld=>?_)
      clear hK K
      try simp only[Act.put,List.setIfInBounds_toArray,List.set_cons_zero,List.set_cons_succ,List.getElem_toArray,List.getElem_cons_zero,List.getElem_cons_succ]
      refine wpAnyH_ready (rs:=[10]) (by kernel_rfl) (by simp) ?_
      refine AllReadyH.cons (o:=_) rfl (fun K hK=>?_) AllReadyH.nil
      go_simp
      refine hK.out _ _ (HS.out _ (HB1.out.alloc (Nat.le_trans hsz HB1.out.size) _)) (fun hHeld=>?_)
      clear hK K
      try simp only[Act.put,List.setIfInBounds_toArray,List.set_cons_zero,List.set_cons_succ,List.getElem_toArray,List.getElem_cons_zero,List.getElem_cons_succ]
      refine wpAnyH_ready (rs:=[11]) (by kernel_rfl) (by simp) ?_
      refine AllReadyH.cons (o:=_) rfl (fun K hK=>?_) AllReadyH.nil
      refine Kd.R_append_step kV (w0:=w1) w.heap.size rfl (.tmp 76) (.tmp 85) 24 26 (.agg zero6) 88 rfl Tryz.underlying24 vInfo rfl (by decide) (by omega) out ys y1 _ F _ rfl rfl HV.out.1 HV.out.2.1 HV.out.2.2.1 HV.out.2.2.2.1 HV.out.2.2.2.2.1 HV.out.2.2.2.2.2.1 (by omega) ?_;intro v1 w2 hr2 hb2 hg hat;obtain⟨Av,cv,rfl⟩:=Kd.R_slice hr2;have HP:=Lib.hid (HV.out.2.2.2.2.2.2.push hr2 hg hat);have hz2:=HV.out.2.2.2.2.2.2.third hg;have HB2:=Lib.hid (HV.out.2.2.2.2.2.2.keeps hg HB1.out);have u5:=(cells6 hz2).2.2.2.2.2;have uz:=blk_free hz2;clear hr2 hb2 hg hat hz2
      refine hK.out _ _ (HS.out _ HB2.out) (fun hHeld=>?_)
      clear hK K
      try simp only[Act.put,List.setIfInBounds_toArray,List.set_cons_zero,List.set_cons_succ,List.getElem_toArray,List.getElem_cons_zero,List.getElem_cons_succ]
      refine wpAnyH_take (i:=12) (oi:=_) (v:=?_) rfl (by kernel_rfl) (by kernel_rfl) (by kernel_rfl) (fun _ _ _ h=>h) (Or.inl ⟨by rfl,?_⟩) (by assumption) ?_;rotate_left 1;·(intro w hSw;(try dsimp only at hSw);go_simp;first|done|with_reducible rfl)
      try simp only[Act.put,List.setIfInBounds_toArray,List.set_cons_zero,List.set_cons_succ,List.getElem_toArray,List.getElem_cons_zero,List.getElem_cons_succ]
      refine wpAnyH_ready (rs:=[13]) (by kernel_rfl) (by simp) ?_
      refine AllReadyH.cons (o:=_) rfl (fun K hK=>?_) AllReadyH.nil
      go_simp
      refine hK.out _ _ (HS.out _ (HB2.out.setCell (p:=⟨w.heap.size+2,5,none⟩) (Nat.le_refl _) _)) (fun hHeld=>?_)
      clear hK K
      try simp only[Act.put,List.setIfInBounds_toArray,List.set_cons_zero,List.set_cons_succ,List.getElem_toArray,List.getElem_cons_zero,List.getElem_cons_succ]
      refine wpAnyH_done (by kernel_rfl) ?_ _
      go_wp2
      go_roundw
      case rel=>exact⟨j+1,_,ys++[y1],by omega,by omega,by go_num,by simp[hys],Lib.hid (fun q hq=>by rcases List.mem_append.1 hq with h|h;exact HQ.out q h;rw[List.mem_singleton] at h;rw[h];exact HCT.out),Lib.hid (cb_len HP.out (by simp[hys]))⟩
      case measure=>simp[intOf];omega
     ·go_simp
      refine hK.out _ _ (HS.out _ (HB1.out.alloc (Nat.le_trans hsz HB1.out.size) _)) (fun hHeld=>?_)
      clear hK K
      try simp only[Act.put,List.setIfInBounds_toArray,List.set_cons_zero,List.set_cons_succ,List.getElem_toArray,List.getElem_cons_zero,List.getElem_cons_succ]
      refine wpAnyH_ready (rs:=[1]) (by kernel_rfl) (by simp) ?_
      refine AllReadyH.cons (o:=_) rfl (fun K hK=>?_) AllReadyH.nil
      go_simp
      refine hK.out _ _ (HS.out _ (HB1.out.alloc (Nat.le_trans hsz HB1.out.size) _)) (fun hHeld=>?_)
      clear hK K
      try simp only[Act.put,List.setIfInBounds_toArray,List.set_cons_zero,List.set_cons_succ,List.getElem_toArray,List.getElem_cons_zero,List.getElem_cons_succ]
      refine wpAnyH_ready (rs:=[11]) (by kernel_rfl) (by simp) ?_
      refine AllReadyH.cons (o:=_) rfl (fun K hK=>?_) AllReadyH.nil
      refine Kd.R_append_step kV (w0:=w1) w.heap.size rfl (.tmp 76) (.tmp 85) 24 26 (.agg zero6) 88 rfl Tryz.underlying24 vInfo rfl (by decide) (by omega) out ys y1 _ F _ rfl rfl HV.out.1 HV.out.2.1 HV.out.2.2.1 HV.out.2.2.2.1 HV.out.2.2.2.2.1 HV.out.2.2.2.2.2.1 (by omega) ?_;intro v1 w2 hr2 hb2 hg hat;obtain⟨Av,cv,rfl⟩:=Kd.R_slice hr2;have HP:=Lib.hid (HV.out.2.2.2.2.2.2.push hr2 hg hat);have hz2:=HV.out.2.2.2.2.2.2.third hg;have HB2:=Lib.hid (HV.out.2.2.2.2.2.2.keeps hg HB1.out);have u5:=(cells6 hz2).2.2.2.2.2;have uz:=blk_free hz2;clear hr2 hb2 hg hat hz2
      refine hK.out _ _ (HS.out _ HB2.out) (fun hHeld=>?_)
      clear hK K
      try simp only[Act.put,List.setIfInBounds_toArray,List.set_cons_zero,List.set_cons_succ,List.getElem_toArray,List.getElem_cons_zero,List.getElem_cons_succ]
      refine wpAnyH_take (i:=12) (oi:=_) (v:=?_) rfl (by kernel_rfl) (by kernel_rfl) (by kernel_rfl) (fun _ _ _ h=>h) (Or.inl ⟨by rfl,?_⟩) (by assumption) ?_;rotate_left 1;·(intro w hSw;(try dsimp only at hSw);go_simp;first|done|with_reducible rfl)
      try simp only[Act.put,List.setIfInBounds_toArray,List.set_cons_zero,List.set_cons_succ,List.getElem_toArray,List.getElem_cons_zero,List.getElem_cons_succ]
      refine wpAnyH_ready (rs:=[13]) (by kernel_rfl) (by simp) ?_
      refine AllReadyH.cons (o:=_) rfl (fun K hK=>?_) AllReadyH.nil
      go_simp
      refine hK.out _ _ (HS.out _ (HB2.out.setCell (p:=⟨w.heap.size+2,5,none⟩) (Nat.le_refl _) _)) (fun hHeld=>?_)
      clear hK K
      try simp only[Act.put,List.setIfInBounds_toArray,List.set_cons_zero,List.set_cons_succ,List.getElem_toArray,List.getElem_cons_zero,List.getElem_cons_succ]
      refine wpAnyH_done (by kernel_rfl) ?_ _
      go_wp2
      go_roundw
      case rel=>exact⟨j+1,_,ys++[y1],by omega,by omega,by go_num,by simp[hys],Lib.hid (fun q hq=>by rcases List.mem_append.1 hq with h|h;exact HQ.out q h;rw[List.mem_singleton] at h;rw[h];exact HCT.out),Lib.hid (cb_len HP.out (by simp[hys]))⟩
      case measure=>simp[intOf];omega
   ·obtain⟨Ao,Lo,co,rfl⟩: ∃A L c,out= .slice A L c:=by obtain⟨A,c,e⟩:=Kd.R_slice HT.out.row;exact⟨A,_,c,e⟩
    obtain⟨z0,z1,z2,z3,z4,z5⟩:=cells6 HT.out.b1
    obtain⟨y0,y1,y2,y3,y4,y5⟩:=cells6 HT.out.b2
    obtain⟨x0,x1,x2,x3,x4,x5⟩:=cells6 HT.out.b3
    have yz:=blk_free HT.out.b2
    by_cases hl1:j<n5
    all_goals
     have hl2: ¬((j:Int)<n5)∨ ¬((j:Int)<8):=by omega
     first
      |have hl3: ¬((j:Int)<8):=by omega
      |have hl4: ¬((j:Int)<n5):=by omega
     go_wp2
     refine bodyPost_ret (v:= .agg #[.int .i64 7, .bool false, .slice none 0 0, .int .u64 0, .string ⟨#[]⟩, .slice Ao Lo co]) (by simp[results,Tryz.results9,go_sem,y0,y1,y2,y3,y4,y5]) rfl ?_
     obtain⟨hM,hb⟩:=HT.out.final (.int .i64 7) (.bool false) (.slice none 0 0) (.int .u64 0) (.string ⟨#[]⟩) (.slice Ao Lo co)
     exact⟨_,⟨7,false,[],0,⟨#[]⟩,ys⟩,rfl,Kd.M_mono _ (fun q hq=>trivial) hM,Or.inr ⟨⟨rfl,rfl,rfl,rfl⟩,(by show ys.length≤16;omega),HQ.out,by first|exact Or.inl rfl|exact Or.inr (Or.inl rfl)⟩,hb⟩
theorem findV_noneS {E:VT→VT→Bool} {ys:List VT} {key:VT} {step:Nat} (hs:0<step) (h:findV E ys step key=none): ∀a (ha:a*step<ys.length),E ys[a*step] key=false:=by
 have:=findE_by E key ys step hs ys.length 0 0 (by omega) (by omega) (fun q h1 h2=>absurd h2 (Nat.not_lt_zero _))
 unfold findV at h
 rw[h] at this
 rcases this with⟨_,hn⟩|⟨k,hk,e,_⟩
 ·exact fun a ha=>hn a ha ha
 ·exact absurd e (by simp;omega)
theorem findR_lt {ys:List VT} {key:VT} {step:Nat} {r:Int} (hs:0<step) (hr:findR EQ ys step key=r) (hlt:r<0): ∀a (ha:a*step<ys.length),EQ ys[a*step] key=false:=by
 have h:=findR_neg EQ ys step key
 rw[hr] at h
 have:findV EQ ys step key=none:=by
  cases hh:findV EQ ys step key with
  |none=>rfl
  |some j=>rw[hh] at h;simp at h;omega
 exact findV_noneS hs this
theorem dist2_push {ys:List VT} {k v:VT} (h:Dist 2 ys) (he:ys.length%2=0) (hn: ∀a (ha:a*2<ys.length),EQ ys[a*2] k=false):Dist 2 (ys++[k,v]):=by
 intro a b hb hab
 have hb':b*2<ys.length+2:=by simpa using hb
 by_cases h1:b*2<ys.length
 ·have e1:(ys++[k,v])[a*2]'(by simp;omega)=ys[a*2]'(by omega):=List.getElem_append_left _
  have e2:(ys++[k,v])[b*2]'hb=ys[b*2]:=List.getElem_append_left _
  rw[e1,e2]
  exact h a b h1 hab
 ·have hbe:b*2=ys.length:=by omega
  have e1:(ys++[k,v])[a*2]'(by simp;omega)=ys[a*2]'(by omega):=List.getElem_append_left _
  have e2:(ys++[k,v])[b*2]'hb=k:=by
   rw[List.getElem_append_right (by omega)]
   simp[hbe]
  rw[e1,e2]
  exact hn a (by omega)
theorem dist1_push {ys:List VT} {k:VT} (h:Dist 1 ys) (hn: ∀a (ha:a*1<ys.length),EQ ys[a*1] k=false):Dist 1 (ys++[k]):=by
 intro a b hb hab
 have hb':b*1<ys.length+1:=by simpa using hb
 by_cases h1:b*1<ys.length
 ·have e1:(ys++[k])[a*1]'(by simp;omega)=ys[a*1]'(by omega):=List.getElem_append_left _
  have e2:(ys++[k])[b*1]'hb=ys[b*1]:=List.getElem_append_left _
  rw[e1,e2]
  exact h a b h1 hab
 ·have hbe:b*1=ys.length:=by omega
  have e1:(ys++[k])[a*1]'(by simp;omega)=ys[a*1]'(by omega):=List.getElem_append_left _
  have e2:(ys++[k])[b*1]'hb=k:=by
   rw[List.getElem_append_right (by omega)]
   simp[hbe]
  rw[e1,e2]
  exact hn a (by omega)
structure Pairs (m:Nat) (ys:List VT):Prop where
 ct: ∀y∈ys,CT m y
 even:ys.length%2=0
 hk: ∀i (h:i*2<ys.length),HkT m ys[i*2]
 dist:Dist 2 ys
theorem Pairs.nil (m:Nat):Pairs m []:=⟨(by intro y h;cases h),rfl,fun i h=>absurd h (Nat.not_lt_zero _),fun a b h=>absurd h (Nat.not_lt_zero _)⟩
theorem Pairs.push {m:Nat} {ys:List VT} {k v:VT} (h:Pairs m ys) (ck:CT m k) (hk:HkT m k) (cv:CT m v) (hn: ∀a (ha:a*2<ys.length),EQ ys[a*2] k=false):Pairs m (ys++[k,v]):=by
 have he:=h.even
 refine⟨fun y hy=>?_,by simp;omega,fun i hi=>?_,dist2_push h.dist h.even hn⟩
 ·rcases List.mem_append.1 hy with hy|hy
  ·exact h.ct y hy
  ·rcases List.mem_cons.1 hy with rfl|hy
   ·exact ck
   ·rw[List.mem_singleton] at hy;rw[hy];exact cv
 ·have hi':i*2<ys.length+2:=by simpa using hi
  by_cases h1:i*2<ys.length
  ·rw[List.getElem_append_left h1];exact h.hk i h1
  ·have hbe:i*2=ys.length:=by omega
   rw[List.getElem_append_right (by omega)]
   simpa [hbe] using hk
structure Elems (m:Nat) (ys:List VT):Prop where
 ct: ∀y∈ys,CT m y
 hk: ∀y∈ys,HkT m y
 dist:Dist 1 ys
theorem Elems.nil (m:Nat):Elems m []:=⟨(by intro y h;cases h),(by intro y h;cases h),fun a b h=>absurd h (Nat.not_lt_zero _)⟩
theorem Elems.push {m:Nat} {ys:List VT} {k:VT} (h:Elems m ys) (ck:CT m k) (hk:HkT m k) (hn: ∀a (ha:a*1<ys.length),EQ ys[a*1] k=false):Elems m (ys++[k]):=by
 refine⟨fun y hy=>?_,fun y hy=>?_,dist1_push h.dist hn⟩
 ·rcases List.mem_append.1 hy with hy|hy
  ·exact h.ct y hy
  ·rw[List.mem_singleton] at hy;rw[hy];exact ck
 ·rcases List.mem_append.1 hy with hy|hy
  ·exact h.hk y hy
  ·rw[List.mem_singleton] at hy;rw[hy];exact hk
theorem two_rows {w:World} {B:Nat} {okp:Nat→Prop} {k v:VT} {kc vc:List Value} (hk:kV.M w B okp k kc) (hv:kV.M w B okp v vc):ReadsRow (kV.M (w.alloc (.cells (kc++vc).toArray 26)) B okp) 6 (w.alloc (.cells (kc++vc).toArray 26)) (some ⟨w.heap.size,0,none⟩) 2 [k,v]:=by
 have lk:kc.length=6:=kV.K_len (kV.K_of_M hk)
 have lv:vc.length=6:=kV.K_len (kV.K_of_M hv)
 have hb:Below w.heap.size w (w.alloc (.cells (kc++vc).toArray 26)):=(Below.refl _ w).alloc (Nat.le_refl _) _
 have hc: ∀i u,(kc++vc)[i]?=some u→(w.alloc (.cells (kc++vc).toArray 26)).cell? ⟨w.heap.size,i,none⟩=some u:=fun i u hu=>by
  rw[blk_cell (blk_new w _)]
  simpa using hu
 refine⟨rfl,by decide,fun _=>⟨_,rfl,fun j p hj=>?_⟩⟩
 rcases j with _|_|j
 ·simp only[List.getElem?_cons_zero,Option.some.injEq] at hj
  subst hj
  refine⟨kc,lk,Kd.M_below hk hb,fun i u hu=>?_⟩
  have hi:=(List.getElem?_eq_some_iff.1 hu).1
  rw[add_off]
  exact hc _ u (by rw[Nat.zero_mul,Nat.zero_add,List.getElem?_append_left hi];exact hu)
 ·simp only[List.getElem?_cons_succ,List.getElem?_cons_zero,Option.some.injEq] at hj
  subst hj
  refine⟨vc,lv,Kd.M_below hv hb,fun i u hu=>?_⟩
  rw[add_off]
  exact hc _ u (by rw[List.getElem?_append_right (by omega),lk];rw[show(0+1)*6+i-6=i by omega];exact hu)
 ·simp at hj
theorem findKids_c (m:Nat) (hm:m≤8) (A:Option Addr) (c:Nat) (ys:List VT) (y:VT) (v:Value) (step:Nat) (w:World) (h:kV.C w A ys.length ys) (hy:VR w v y) (hn:ys.length≤1000000) (hs:step=1∨step=2) (hc: ∀k∈ys,CT m k) (hcy:CT m y):
 Calls Tryz.prog 53 #[.slice A ys.length c, .int .i64 step,v] w fun e w'=>e= .returned (.int .i64 (findR EQ ys step y))∧Below w.heap.size w w':=
 treeFind_c EQ A c ys y v step w h hy hn hs fun W _ i hi u v' h1 h2=>treeEq_c 9 _ _ _ _ W h1 h2 ((hc _ (List.getElem_mem hi)).ok9 hm) (hcy.ok9 hm)
set_option maxRecDepth 100000 in
set_option maxHeartbeats 1000000 in
theorem cleanSet_c (m:Nat) (hm8:m≤8) (d d':Int) (hdd:d-1=d') (hw:IntKind.i64.wrap d'=d') (x:VT) (A2:Option Addr) (c2:Nat) (A5:Option Addr) (n5 c5:Nat) (w:World) (h:RawN (m+1) w x A2 c2 A5 n5 c5)
 (ih: ∀(x:VT) (A2:Option Addr) (c2:Nat) (A5:Option Addr) (n5 c5:Nat) (w:World),RawN m w x A2 c2 A5 n5 c5→Calls Tryz.prog 9 #[.agg (six5 x A2 c2 A5 n5 c5), .int .i64 d'] w (CleanN m w)):
 Calls Tryz.prog 26 #[.agg (six5 x A2 c2 A5 n5 c5), .int .i64 d] w (CleanN (m+1) w):=by
 obtain⟨a0,a1,a2,a3,a4,a5⟩:=x
 dsimp only[six5] at*
 have HKM:=Lib.hid h.2.2
 have hn5:n5≤9223372036854775807:=h.2.1
 have HIH:=Lib.hid ih
 obtain⟨F,hF⟩: ∃F:Nat→Prop,F=fun j=>w.heap.size+3≤j:=⟨_,rfl⟩
 have hF1: ∀j,F j→Free w.heap.size j:=by rw[hF];intro j h;exact Or.inr h
 have hF2: ∀j,w.heap.size+3≤j→F j:=by rw[hF];intro j h;exact h
 have hdw:IntKind.i64.wrap (d-1)=d':=by rw[hdd];exact hw
 obtain⟨W0,hW0⟩: ∃W,W=(((w.alloc (.cells #[.int .i64 a0, .bool a1, .slice A2 a2.length c2, .int .u64 a3, .string a4, .slice A5 n5 c5] 26)).alloc (.cells zero6 26)).alloc (.cells #[.int .i64 9, .bool false, .slice none 0 0, .int .u64 0, .string ⟨#[]⟩, .slice none 0 0] 26)):=⟨_,rfl⟩
 have HT0:Hid (CB w w.heap.size F #[.int .i64 a0, .bool a1, .slice A2 a2.length c2, .int .u64 a3, .string a4, .slice A5 n5 c5] 9 (.slice none 0 0) [] W0):=by rw[hW0];exact Lib.hid (CB.start w w.heap.size F _ 9 hF1 hF2)
 clear hF hF1 hF2 h ih
 go_enter Tryz.func26,Tryz.ntmps26
 go_wp2_with fail
 rw[←hW0]
 clear hW0
 go_loopw [6] (fun i wr=> ∃(j:Nat) (out:Value) (ys:List VT),j≤n5∧j≤8∧i= .int .i64 (j:Int)∧ys.length≤j∧Hid (Elems m ys)∧Hid (CB w w.heap.size F #[.int .i64 a0, .bool a1, .slice A2 a2.length c2, .int .u64 a3, .string a4, .slice A5 n5 c5] 9 out ys wr)) (fun i _=>8-(intOf i).toNat)
 case atStart=>exact⟨0,_,[],Nat.zero_le _,by omega,rfl,Nat.le_refl _,Lib.hid (Elems.nil m),HT0⟩
 case round=>
  clear HT0
  obtain⟨j,out,ys,hj,hj8,rfl,hys,HQ,HT⟩:=hrel
  by_cases hlt:j<n5∧j<8
  ·obtain⟨hl1,hl2⟩:=hlt
   have hl3:(j:Int)<8:=by omega
   obtain⟨b,o,y,P2,p2,P5,m5,p5,rfl,hb,k0,k1,k2,k3,k4,k5,hV⟩:=HKM.out j hl1
   have hB:=HT.out.low
   have x0:=(hB.cell (p:=⟨b,o+j*6,none⟩) hb).trans k0
   have x1:=(hB.cell (p:=⟨b,o+j*6+1,none⟩) hb).trans k1
   have x2:=(hB.cell (p:=⟨b,o+j*6+2,none⟩) hb).trans k2
   have x3:=(hB.cell (p:=⟨b,o+j*6+3,none⟩) hb).trans k3
   have x4:=(hB.cell (p:=⟨b,o+j*6+4,none⟩) hb).trans k4
   have x5:=(hB.cell (p:=⟨b,o+j*6+5,none⟩) hb).trans k5
   have z5:=(cells6 HT.out.b1).2.2.2.2.2
   have hsz3:=HT.out.size
   have hsz:w.heap.size+2≤wr.heap.size:=by omega
   have hlow:w.heap.size≤wr.heap.size:=by omega
   have HC:Hid (Calls Tryz.prog 9 #[.agg (six5 y P2 p2 P5 m5 p5), .int .i64 d'] wr (CleanN m wr)):=Lib.hid (HIH.out y P2 p2 P5 m5 p5 wr (hV.below hB))
   obtain⟨Ao,co,rfl,hlo,_⟩:=Kd.R_reads HT.out.row
   clear k0 k1 k2 k3 k4 k5 hV hB
   go_upto_region 6 with(first
    |(go_at_call 9;(with_reducible refine HC.out.mono ?_);rintro e w1 ⟨cs1,y1,rfl,hM,hct,hb1⟩;obtain⟨Q2,q2,Q5,q5,rfl⟩:=m_shape hM;have HM1:=Lib.hid hM;have HCT:=Lib.hid hct;have HB1:=Lib.hid hb1;clear hM hct hb1)
    |(go_at_call 52;(with_reducible refine(key_c m wr.heap.size (fun _=>True) y1 _ w1 HB1.out.size HM1.out HCT.out).mono ?_);rintro e w2 ⟨cs2,y2,rfl,hM,hct,hhk,hb2⟩;obtain⟨R2,r2,R5,r5,rfl⟩:=m_shape hM;have HM2:=Lib.hid hM;have HK2:=Lib.hid (And.intro hct hhk);have HB2:=Lib.hid (HB1.out.trans (hb2.mono HB1.out.size));clear hM hct hhk hb2))
   clear x0 x1 x2 x3 x4 x5
   obtain⟨W3,hW3⟩: ∃W,W=w2.alloc (.cells (List.toArray [.int .i64 y2.f0, .bool y2.f1, .slice R2 y2.f2.length r2, .int .u64 y2.f3, .string y2.f4, .slice R5 y2.f5.length r5]) 26):=⟨_,rfl⟩
   have HB3:Hid (Below wr.heap.size wr W3):=by rw[hW3];exact Lib.hid (HB2.out.alloc HB2.out.size _)
   have HN3:Hid (W3.heap[w2.heap.size]?=some (.cells (List.toArray [.int .i64 y2.f0, .bool y2.f1, .slice R2 y2.f2.length r2, .int .u64 y2.f3, .string y2.f4, .slice R5 y2.f5.length r5]) 26 (0,0))):=by rw[hW3];exact Lib.hid (blk_new _ _)
   have HM3:Hid (kV.M W3 wr.heap.size (fun _=>True) y2 [.int .i64 y2.f0, .bool y2.f1, .slice R2 y2.f2.length r2, .int .u64 y2.f3, .string y2.f4, .slice R5 y2.f5.length r5]):=by rw[hW3];exact Lib.hid (Kd.M_below (Kd.M_mono _ (fun _ _=>trivial) HM2.out) ((Below.refl _ _).alloc (Nat.le_refl _) _))
   rw[←hW3]
   clear hW3
   have HT3:=Lib.hid (HT.out.below HB3.out)
   obtain⟨x0,x1,x2,x3,x4,x5⟩:=cells6 HT3.out.b3
   obtain⟨q0,q1,q2',q3,q4,q5'⟩:=cells6 HN3.out
   have HFC:Hid (Calls Tryz.prog 53 #[.slice Ao ys.length co, .int .i64 1, .agg (List.toArray [.int .i64 y2.f0, .bool y2.f1, .slice R2 y2.f2.length r2, .int .u64 y2.f3, .string y2.f4, .slice R5 y2.f5.length r5])] W3 fun e w'=>e= .returned (.int .i64 (findR EQ ys 1 y2))∧Below W3.heap.size W3 w'):=Lib.hid (by
    obtain⟨A',c',e',_,hC'⟩:=Kd.R_reads HT3.out.row
    cases e'
    exact findKids_c m hm8 Ao co ys y2 _ 1 W3 hC' ⟨_,rfl,kV.K_of_M HM3.out⟩ (by omega) (by decide) HQ.out.ct HK2.out.1)
   obtain⟨r,hr⟩: ∃r,findR EQ ys 1 y2=r:=⟨_,rfl⟩
   have HLT:=Lib.hid (fun h=>findR_lt (r:=r) (by decide) hr h)
   rw[hr] at HFC
   clear hr
   by_cases hneg:r<0
   ·go_upto_region 7 with(first|(go_at_call 53;(with_reducible refine HFC.out.mono ?_);rintro e w4 ⟨rfl,hb4⟩;have HB4:=Lib.hid (HB3.out.trans (hb4.mono HB3.out.size));have HN4:=Lib.hid (blk_below HN3.out hb4);have HM4:=Lib.hid (Kd.M_below HM3.out hb4);have HT4:=Lib.hid (HT3.out.below hb4);clear hb4))
    clear x0 x1 x2 x3 x4 x5 q0 q1 q2' q3 q4 q5'
    obtain⟨x0,x1,x2,x3,x4,x5⟩:=cells6 HT4.out.b3
    obtain⟨q0,q1,q2',q3,q4,q5'⟩:=cells6 HN4.out
    have HV:=Lib.hid (HT.out.app (okk:=fun _=>False) HB4.out (kidM_new HM4.out hlow) (fun _ h=>h.elim) (Nat.le_refl _))
    go_wp2_with (first
     |(at_builtin;refine Kd.R_append kV (w0:=w4) w.heap.size rfl _ _ 24 26 (.agg zero6) 88 rfl Tryz.underlying24 vInfo rfl (by decide) (by omega) (.slice Ao ys.length co) ys y2 _ F _ rfl rfl HV.out.1 HV.out.2.1 HV.out.2.2.1 HV.out.2.2.2.1 HV.out.2.2.2.2.1 HV.out.2.2.2.2.2.1 (by omega) ?_;intro v1 w5 hr2 hb2 hg hat;obtain⟨Av,cv,rfl⟩:=Kd.R_slice hr2;have HP:=Lib.hid (HT4.out.push hr2 hg hat);have hz2:=HT4.out.third hg;have u5:=(cells6 hz2).2.2.2.2.2;have uz:=blk_free hz2;clear hr2 hb2 hg hat hz2))
    go_roundw
    case rel=>exact⟨j+1,_,ys++[y2],by omega,by omega,by go_num,by simp;omega,Lib.hid (HQ.out.push HK2.out.1 HK2.out.2 (HLT.out hneg)),Lib.hid (cb_len HP.out (by simp))⟩
    case measure=>simp[intOf];omega
   ·go_wp2_with (first|(go_at_call 53;(with_reducible refine HFC.out.mono ?_);rintro e w4 ⟨rfl,hb4⟩;have HB4:=Lib.hid (HB3.out.trans (hb4.mono HB3.out.size));have HN4:=Lib.hid (blk_below HN3.out hb4);have HM4:=Lib.hid (Kd.M_below HM3.out hb4);have HT4:=Lib.hid (HT3.out.below hb4);clear hb4))
    go_roundw
    case rel=>exact⟨j+1,_,ys,by omega,by omega,by go_num,by omega,HQ,HT4⟩
    case measure=>simp[intOf];omega
  ·obtain⟨Ao,Lo,co,rfl⟩: ∃A L c,out= .slice A L c:=by obtain⟨A,c,e⟩:=Kd.R_slice HT.out.row;exact⟨A,_,c,e⟩
   obtain⟨z0,z1,z2,z3,z4,z5⟩:=cells6 HT.out.b1
   obtain⟨y0,y1,y2,y3,y4,y5⟩:=cells6 HT.out.b2
   obtain⟨x0,x1,x2,x3,x4,x5⟩:=cells6 HT.out.b3
   have yz:=blk_free HT.out.b2
   by_cases hl1:j<n5
   all_goals
    have hl2: ¬((j:Int)<n5)∨ ¬((j:Int)<8):=by omega
    first
     |have hl3: ¬((j:Int)<8):=by omega
     |have hl4: ¬((j:Int)<n5):=by omega
    go_wp2
    refine bodyPost_ret (v:= .agg #[.int .i64 9, .bool false, .slice none 0 0, .int .u64 0, .string ⟨#[]⟩, .slice Ao Lo co]) (by simp[results,Tryz.results26,go_sem,y0,y1,y2,y3,y4,y5]) rfl ?_
    obtain⟨hM,hb⟩:=HT.out.final (.int .i64 9) (.bool false) (.slice none 0 0) (.int .u64 0) (.string ⟨#[]⟩) (.slice Ao Lo co)
    exact⟨_,⟨9,false,[],0,⟨#[]⟩,ys⟩,rfl,Kd.M_mono _ (fun q hq=>trivial) hM,Or.inr ⟨⟨rfl,rfl,rfl,rfl⟩,(by show ys.length≤16;omega),HQ.out.ct,Or.inr (Or.inr (Or.inr ⟨rfl,(by show ys.length≤8;omega),HQ.out.hk,HQ.out.dist⟩))⟩,hb⟩
end Go.Proofs.YtkplnbjgkhmbcaaGreatDoor
