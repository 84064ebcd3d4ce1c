/- CdF CdG CdH CdI CdJ CdK CdL CdM CdN CdO -/
import Derived.Test.YtkplnbjgkhmbcaaGreatDoorU21
import Derived.Test.YtkplnbjgkhmbcaaGreatDoorU06
namespace Go.Proofs.YtkplnbjgkhmbcaaGreatDoor
open Go.RowKit Go.Shelf Go.Proofs.YtkplnbjgkhmbcaaGreatDoorW.PrintWords Go.Proofs.YtkplnbjgkhmbcaaGreatDoorW.PrintLast Go.Proofs.YtkplnbjgkhmbcaaGreatDoorW.PrintMore Go.Proofs.YtkplnbjgkhmbcaaGreatDoor.PFnCompare Go.Proofs.YtkplnbjgkhmbcaaGreatDoor.PCmp Go.Proofs.YtkplnbjgkhmbcaaGreatDoor.PbytesOf
set_option linter.unusedVariables false
set_option linter.unusedSimpArgs false
theorem RowV.belowP {B n:Nat} {w W:World} {sl:Value} {xs:List VT} (h:RowV B w (PV B n w) sl xs) (hW:Below w.heap.size w W):RowV B W (PV B n W) sl xs:=
 h.agr ((Below.agr hW).mono (Nat.zero_le _)) fun _ _ hp=>hp.below hW
def CdAll (n:Nat) (d':Int) (w:World):Prop:= ∀W,Below w.heap.size w W→CdIH n d' W
theorem cdTup_c (k:Int) (hk:KOk k) (n:Nat) (hn:n+1≤8) (d d':Int) (hd0: ¬d<1) (hd2:d≤1000) (hd:d-1=d') (hw:IntKind.i64.wrap d'=d') (B1 B2:Nat) (v1 v2:Value) (x y:VT) (w:World) (p1:PV B1 (n+1) w v1 x) (p2:PV B2 (n+1) w v2 y)
 (cx:CT (n+1) x) (cy:CT (n+1) y) (kx:x.f0=7) (ky:y.f0=7) (ih:CdAll n d' w):
 Calls Tryz.prog 29 #[.int .i8 (tokOf k),v1,v2, .int .i64 d] w fun e w'=>CmpR (cmpV (n+2) k x y) e∧Below w.heap.size w w':=by
 have HS:=sameTypeP_c p1 p2
 rw[show(x.f0==y.f0)=true by rw[kx,ky];rfl] at HS
 obtain⟨m1,hm1,bx,lx,c1,_⟩:=cx.isBox (by omega)
 have e1:n=m1:=by omega
 subst e1
 obtain⟨m2,hm2,bY,ly,c2,_⟩:=cy.isBox (by omega)
 have e2:n=m2:=by omega
 subst e2
 have o1: ∃sl,v1= .iface 98 sl∧RowV B1 w (PV B1 n w) sl x.f5:=by
  rcases p1 with h|⟨_,h|h|h|h⟩
  ·exfalso;have:=h.kind;omega
  ·exfalso;omega
  ·exact h.2
  ·exfalso;omega
  ·exfalso;omega
 have o2: ∃sl,v2= .iface 98 sl∧RowV B2 w (PV B2 n w) sl y.f5:=by
  rcases p2 with h|⟨_,h|h|h|h⟩
  ·exfalso;have:=h.kind;omega
  ·exfalso;omega
  ·exact h.2
  ·exfalso;omega
  ·exfalso;omega
 obtain⟨s1,rfl,r1⟩:=o1
 obtain⟨s2,rfl,r2⟩:=o2
 rw[←rowCmp_V hk cx cy hn hn (Or.inr kx) (kx.trans ky.symm) (by rw[bx.2.2.2,bY.2.2.2])]
 exact cdCmp_c 98 287 s1 s2 (tokOf k) d _ w hd0 hd2 as109Tuple methCmpTuple (enters_of Tryz.func287 (by kernel_rfl) rfl) (Lib.hid HS)
  (Lib.hid fun W hW=>tupSame_c s1 s2 (tokOf k) d _ W (Lib.hid (cdRow_c k hk n d d' hd hw B1 B2 s1 s2 x y W (r1.belowP hW) (r2.belowP hW) c1 c2 lx ly (ih W hW))))
theorem cdList_c (k:Int) (hk:KOk k) (n:Nat) (hn:n+1≤8) (d d':Int) (hd0: ¬d<1) (hd2:d≤1000) (hd:d-1=d') (hw:IntKind.i64.wrap d'=d') (B1 B2:Nat) (v1 v2:Value) (x y:VT) (w:World) (p1:PV B1 (n+1) w v1 x) (p2:PV B2 (n+1) w v2 y)
 (cx:CT (n+1) x) (cy:CT (n+1) y) (kx:x.f0=6) (ky:y.f0=6) (ih:CdAll n d' w):
 Calls Tryz.prog 29 #[.int .i8 (tokOf k),v1,v2, .int .i64 d] w fun e w'=>CmpR (cmpV (n+2) k x y) e∧Below w.heap.size w w':=by
 have HS:=sameTypeP_c p1 p2
 rw[show(x.f0==y.f0)=true by rw[kx,ky];rfl] at HS
 obtain⟨m1,hm1,bx,lx,c1,_⟩:=cx.isBox (by omega)
 have e1:n=m1:=by omega
 subst e1
 obtain⟨m2,hm2,bY,ly,c2,_⟩:=cy.isBox (by omega)
 have e2:n=m2:=by omega
 subst e2
 have o1: ∃g sl,v1= .iface 82 (.pointer (some ⟨g,0,none⟩))∧B1≤g∧LT w g sl∧RowV B1 w (PV B1 n w) sl x.f5:=by
  rcases p1 with h|⟨_,h|h|h|h⟩
  ·exfalso;have:=h.kind;omega
  ·exact h.2
  ·exfalso;omega
  ·exfalso;omega
  ·exfalso;omega
 have o2: ∃g sl,v2= .iface 82 (.pointer (some ⟨g,0,none⟩))∧B2≤g∧LT w g sl∧RowV B2 w (PV B2 n w) sl y.f5:=by
  rcases p2 with h|⟨_,h|h|h|h⟩
  ·exfalso;have:=h.kind;omega
  ·exact h.2
  ·exfalso;omega
  ·exfalso;omega
  ·exfalso;omega
 obtain⟨g1,s1,rfl,_,t1,r1⟩:=o1
 obtain⟨g2,s2,rfl,_,t2,r2⟩:=o2
 rw[←rowCmp_V hk cx cy hn hn (Or.inl kx) (kx.trans ky.symm) (by rw[bx.2.2.2,bY.2.2.2])]
 exact cdCmp_c 82 277 _ _ (tokOf k) d _ w hd0 hd2 as109List methCmpList (enters_of Tryz.func277 (by kernel_rfl) rfl) (Lib.hid HS)
  (Lib.hid fun W hW=>listSame_c g1 g2 s1 s2 (tokOf k) d _ W (blk_below t1 hW) (blk_below t2 hW) (Lib.hid fun W' hW'=>cdRow_c k hk n d d' hd hw B1 B2 s1 s2 x y W' ((r1.belowP hW).belowP hW') ((r2.belowP hW).belowP hW') c1 c2 lx ly (ih W' (hW.trans (hW'.mono hW.size)))))
theorem cdUnlike_c (k:Int) (hk:KOk k) (n m:Nat) (hn:n≤8) (d:Int) (hd0: ¬d<1) (hd2:d≤1000) (B1 B2:Nat) (v1 v2:Value) (x y:VT) (w:World) (p1:PV B1 n w v1 x) (p2:PV B2 n w v2 y)
 (cx:CT n x) (cy:CT n y) (hne: ¬x.f0=y.f0) (hnum:(isNum x&&isNum y)=false):
 Calls Tryz.prog 29 #[.int .i8 (tokOf k),v1,v2, .int .i64 d] w fun e w'=>CmpR (cmpV (m+1) k x y) e∧Below w.heap.size w w':=by
 have HS:=sameTypeP_c p1 p2
 rw[show(x.f0==y.f0)=false by simp[hne]] at HS
 have hEQ:=EQ_open cx cy hn hn
 rw[if_neg (by simp[hnum]),if_pos (Or.inl hne)] at hEQ
 have hres:cmpV (m+1) k x y=onlyEq (tokOf k) false:=by
  by_cases h1:k=13∨k=14
  ·rw[cmpV_eq h1,hEQ]
  ·rw[cmpV_kind h1 hnum hne,onlyEq_no (tok_ne hk (fun e=>h1 (Or.inl e)) (fun e=>h1 (Or.inr e)))]
 rw[hres]
 by_cases h2:x.f0=2
 ·obtain⟨s,hs,hf,hv⟩:=p1.to_s (by omega)
  have hks:=hs.kind
  cases s<;>simp[Sca.kind] at hks<;>first|(exfalso;omega)|skip
  obtain⟨u1,rfl,g1⟩:=hv
  obtain⟨T,z,rfl,hnn⟩:=notNumP p2 (fun e=>hne (h2.trans e.symm)) (fun e=>by
   unfold isNum at hnum
   rw[h2,e] at hnum
   cases hnum)
  obtain⟨q,p,rfl⟩:=g1.shape
  exact cdIntOG_c T q p z (tokOf k) d w hk.tok hd0 hd2 hnn (Lib.hid HS)
 ·by_cases h3:x.f0=3
  ·obtain⟨s,hs,hf,hv⟩:=p1.to_s (by omega)
   have hks:=hs.kind
   cases s<;>simp[Sca.kind] at hks<;>first|(exfalso;omega)|skip
   cases hv
   obtain⟨T,z,rfl,hnn⟩:=notNumP p2 (fun e=>by
    unfold isNum at hnum
    rw[h3,e] at hnum
    cases hnum) (fun e=>hne (h3.trans e.symm))
   exact cdFloatOG_c T _ z (tokOf k) d w hk.tok hd0 hd2 hnn (Lib.hid HS)
  ·obtain⟨T,z,rfl,hnn⟩:=notNumP p1 h2 h3
   obtain⟨T2,z2,rfl⟩:=p2.iface
   exact cdOtherG_c T T2 z z2 (tokOf k) d w hk.tok hd0 hd2 hnn (Lib.hid HS)
theorem cdScaT_c (k:Int) (hk:KOk k) (n m:Nat) (d:Int) (hd0: ¬d<1) (hd2:d≤1000) (B1 B2:Nat) (v1 v2:Value) (x y:VT) (w:World) (p1:PV B1 n w v1 x) (p2:PV B2 n w v2 y) (k1:x.f0<6) (k2:y.f0<6) (hT:Thr w):
 Calls Tryz.prog 29 #[.int .i8 (tokOf k),v1,v2, .int .i64 d] w fun e w'=>CmpR (cmpV (m+1) k x y) e∧Below w.heap.size w w':=by
 obtain⟨s,hs,f1,q1⟩:=p1.to_s k1
 obtain⟨t,ht,f2,q2⟩:=p2.to_s k2
 rw[←cmpS_V hk m hs ht]
 exact cdSca_c (tokOf k) hk.tok B1 B2 v1 v2 s t d w hd0 hd2 q1 q2 f1 f2 hT
theorem dictBy_iff (E:VT→VT→Bool) (ys:List VT): ∀(xs:List VT),xs.length%2=0→(dictBy E ys xs=true↔ ∀j (h:j*2+1<xs.length),pairQ E ys (xs[j*2]'(by omega)) xs[j*2+1]=true)
 |[],_=>⟨fun _ j h=>absurd h (by simp),fun _=>rfl⟩
 |[_],h=>by simp at h
 |k::v::r,h=>by
  have ih:=dictBy_iff E ys r (by simp at h;omega)
  have e:dictBy E ys (k::v::r)=(pairQ E ys k v&&dictBy E ys r):=rfl
  rw[e,Bool.and_eq_true,ih]
  constructor
  ·rintro⟨h1,h2⟩ j hj
   cases j with
   |zero=>exact h1
   |succ j=>
    have:=h2 j (by simp at hj;omega)
    have e1:(k::v::r)[(j+1)*2]'(by omega)=r[j*2]'(by simp at hj;omega):=by
     have:(j+1)*2=j*2+1+1:=by omega
     simp[this]
    have e2:(k::v::r)[(j+1)*2+1]'hj=r[j*2+1]'(by simp at hj;omega):=by
     have:(j+1)*2+1=j*2+1+1+1:=by omega
     simp[this]
    rw[e1,e2]
    exact this
  ·intro hall
   refine⟨hall 0 (by simp),fun j hj=>?_⟩
   have:=hall (j+1) (by simp;omega)
   have e1:(k::v::r)[(j+1)*2]'(by simp;omega)=r[j*2]'(by omega):=by
    have:(j+1)*2=j*2+1+1:=by omega
    simp[this]
   have e2:(k::v::r)[(j+1)*2+1]'(by simp;omega)=r[j*2+1]'hj:=by
    have:(j+1)*2+1=j*2+1+1+1:=by omega
    simp[this]
   rw[e1,e2] at this
   exact this
def dF (es:List HEnt) (xs ys:List VT) (j:Nat):Option Value:=match xs[j*2]? with
 |some a=>foundV es ys 2 a
 |none=>none
def dE (xs ys:List VT) (j:Nat):Bool:=match xs[j*2]?,xs[j*2+1]? with
 |some a,some v=>pairQ EQ ys a v
 |_,_=>true
theorem found_some {es:List HEnt} {ys:List VT} {a:VT} (hl:ys.length=es.length*2):(foundV es ys 2 a).isSome=(findV EQ ys 2 a).isSome:=by
 unfold foundV
 cases hf:findV EQ ys 2 a with
 |none=>rfl
 |some j=>
  obtain⟨k,hk,rfl,_⟩:=findV_some (by decide) hf
  have hke:k<es.length:=by omega
  simp only[Option.bind_some,Nat.mul_div_cancel _ (show 0<2 by decide),List.getElem?_eq_getElem hke,Option.map_some,Option.isSome_some]
theorem dict_pair {es:List HEnt} {xs ys:List VT} (hl:ys.length=es.length*2) {j:Nat} (h:j*2+1<xs.length):((dF es xs ys j).isSome&&dE xs ys j)=pairQ EQ ys (xs[j*2]'(by omega)) xs[j*2+1]:=by
 unfold dF dE
 rw[List.getElem?_eq_getElem (show j*2<xs.length by omega),List.getElem?_eq_getElem h]
 show((foundV es ys 2 _).isSome&&pairQ EQ ys _ _)=_
 rw[found_some hl]
 cases hf:findV EQ ys 2 (xs[j*2]'(by omega)) with
 |none=>rw[pair_none hf];rfl
 |some q=>rfl
theorem dictEq_V {n n':Nat} {x y:VT} {es1 es2:List HEnt} (cx:CT n x) (cy:CT n' y) (hn:n≤8) (hn':n'≤8) (kx:x.f0=8) (ky:y.f0=8) (l1:x.f5.length=es1.length*2) (l2:y.f5.length=es2.length*2):
 (decide (es1.length=es2.length)&&allAt es1.length (fun j=>(dF es2 x.f5 y.f5 j).isSome&&dE x.f5 y.f5 j))=EQ x y:=by
 have hEQ:=EQ_open cx cy hn hn'
 rw[if_neg (by unfold isNum;rw[kx];simp)] at hEQ
 by_cases hl:es1.length=es2.length
 ·rw[if_neg (by omega),if_neg (by omega),if_neg (by omega),if_pos kx] at hEQ
  rw[hEQ,decide_eq_true hl,Bool.true_and]
  have hi:=dictBy_iff EQ y.f5 x.f5 (by omega)
  cases hq:dictBy EQ y.f5 x.f5 with
  |true=>exact allAt_true fun j hj=>(dict_pair l2 (by omega)).trans (hi.1 hq j (by omega))
  |false=>
   cases ha:allAt es1.length (fun j=>(dF es2 x.f5 y.f5 j).isSome&&dE x.f5 y.f5 j) with
   |false=>rfl
   |true=>
    exfalso
    have:dictBy EQ y.f5 x.f5=true:=hi.2 fun j hj=>by
     rw[←dict_pair l2 hj]
     unfold allAt at ha
     rw[List.all_eq_true] at ha
     exact ha j (by simp;omega)
    rw[this] at hq
    cases hq
 ·rw[if_pos (Or.inr (by omega))] at hEQ
  rw[hEQ,decide_eq_false hl,Bool.false_and]
set_option maxRecDepth 100000 in
theorem setSameEq_c (g1 g2:Nat) (op d:Int) (b:Bool) (w:World) (ho:op=37∨op=38)
 (HC:Hid (Calls Tryz.prog 310 #[.pointer (some ⟨g1,0,none⟩), .pointer (some ⟨g2,0,none⟩)] w fun e w'=>e= .returned (.tuple #[.bool b, .nilIface])∧Below w.heap.size w w')):
 Calls Tryz.prog 304 #[.pointer (some ⟨g1,0,none⟩), .int .i8 op, .iface 102 (.pointer (some ⟨g2,0,none⟩)), .int .i64 d] w fun e w'=>CmpR (onlyEq op b) e∧Below w.heap.size w w':=by
 have hta:=assertSet1
 rcases ho with rfl|rfl
 all_goals
  go_enter Tryz.func304,Tryz.ntmps304
  go_wp2_with (go_at_call 310;(with_reducible refine HC.out.mono ?_);rintro e w1 ⟨rfl,hb1⟩;have HB:=Lib.hid hb1;clear hb1)
  go_ret2
  exact⟨rfl,HB.out⟩
theorem found_at {es:List HEnt} {ys:List VT} {a:VT} {step:Nat} {v:Value} (hs:0<step) (hl:ys.length=es.length*step) (h:foundV es ys step a=some v): ∃j,∃hj:j<es.length,v=es[j].v∧findV EQ ys step a=some (j*step):=by
 unfold foundV at h
 cases hf:findV EQ ys step a with
 |none=>rw[hf] at h;cases h
 |some i=>
  obtain⟨j,hk,rfl,_⟩:=findV_some hs hf
  have hke:j<es.length:=by
   rw[hl] at hk
   exact Nat.lt_of_mul_lt_mul_right hk
  rw[hf] at h
  simp only[Option.bind_some,Nat.mul_div_cancel _ hs,List.getElem?_eq_getElem hke,Option.map_some,Option.some.injEq] at h
  exact⟨j,hke,h.symm,rfl⟩
theorem dF_eq {es:List HEnt} {xs ys:List VT} {j:Nat} (h:j*2<xs.length):dF es xs ys j=foundV es ys 2 xs[j*2]:=by
 unfold dF
 rw[List.getElem?_eq_getElem h]
theorem getR_two {o:Option Value} {e:Ending} (h:GetR o e): ∃v b,e= .returned (.tuple #[v, .bool b, .nilIface]):=by
 cases o with
 |none=>exact⟨_,_,h⟩
 |some v=>exact⟨_,_,h⟩
theorem dict_eq_c (n:Nat) (hn:n≤8) (d d':Int) (hd:d-1=d') (hw:IntKind.i64.wrap d'=d') (g1 g2 B1 B2:Nat) (es1 es2:List HEnt) (x y:VT) (w:World) (cx:CT (n+1) x) (cy:CT (n+1) y) (hn1:n+1≤8) (kx:x.f0=8) (ky:y.f0=8)
 (t1:HTab w g1 183 (!es1.isEmpty) es1 0) (t2:HTab w g2 183 (!es2.isEmpty) es2 0) (l1:x.f5.length=es1.length*2) (l2:y.f5.length=es2.length*2)
 (r1: ∀i (h:i<es1.length) (h1:i*2<x.f5.length) (h2:i*2+1<x.f5.length),PV B1 n w es1[i].k x.f5[i*2]∧PV B1 n w es1[i].v x.f5[i*2+1]∧es1[i].h=hkey x.f5[i*2])
 (r2: ∀i (h:i<es2.length) (h1:i*2<y.f5.length) (h2:i*2+1<y.f5.length),PV B2 n w es2[i].k y.f5[i*2]∧PV B2 n w es2[i].v y.f5[i*2+1]∧es2[i].h=hkey y.f5[i*2])
 (c1: ∀k∈x.f5,CT n k) (c2: ∀k∈y.f5,CT n k) (D1:DictOk n x.f5) (D2:DictOk n y.f5) (ih:CdAll n d' w) (hT:Thr w) (hL:Lim w):
 Calls Tryz.prog 301 #[.pointer (some ⟨g1,0,none⟩), .pointer (some ⟨g2,0,none⟩), .int .i64 d] w fun e w'=>e= .returned (.tuple #[.bool (EQ x y), .nilIface])∧Below w.heap.size w w':=by
 have hk1:es1.length≤8:=by have:=D1.2.1;omega
 have hk2:es2.length≤8:=by have:=D2.2.1;omega
 rw[←dictEq_V cx cy hn1 hn1 kx ky l1 l2]
 have hat: ∀j (hj:j<es1.length) v,dF es2 x.f5 y.f5 j=some v→ ∃i,∃hi:i<es2.length,v=es2[i].v∧findV EQ y.f5 2 (x.f5[j*2]'(by omega))=some (i*2):=by
  intro j hj v hv
  rw[dF_eq (by omega)] at hv
  exact found_at (by decide) l2 hv
 refine dictsEqual_c g1 g2 _ _ es1 es2 0 0 d d' (dF es2 x.f5 y.f5) (dE x.f5 y.f5) w t1 t2 hk1 hk2 hd hw (fun j hj=>⟨(r1 j hj (by omega) (by omega)).1.iface,(r1 j hj (by omega) (by omega)).2.1.iface,fun v hv=>?_⟩) (fun j hj W hW=>?_) (fun j hj v hv W hW=>?_)
 ·obtain⟨i,hi,rfl,_⟩:=hat j hj v hv
  exact(r2 i hi (by omega) (by omega)).2.1.iface
 ·rw[dF_eq (by omega)]
  refine dictGet_c (GetR _) g2 _ W fun W' hW'=>?_
  have hB:Below w.heap.size w W':=hW.trans (hW'.mono hW.size)
  refine(lookTree_c 2 (by decide) g2 _ 0 es2 n n B1 B2 _ (x.f5[j*2]'(by omega)) y.f5 W' (t2.below hB) hk2 l2 ((r1 j hj (by omega) (by omega)).1.below hB) (hc_of (c1 _ (List.getElem_mem _)) (D1.2.2.1 j (by omega))) hn
   (fun i hi h1=>⟨(r2 i hi h1 (by omega)).1.below hB,(r2 i hi h1 (by omega)).2.2⟩) (fun i h1=>hc_of (c2 _ (List.getElem_mem _)) (D2.2.2.1 i h1)) D2.2.2.2 (hT.below hB) (hL.below hB)).mono ?_
  rintro e W2 ⟨hg,hb⟩
  obtain⟨v,b,he⟩:=getR_two hg
  exact⟨⟨v,b,he,hg⟩,hb⟩
 ·obtain⟨i,hi,rfl,hf⟩:=hat j hj v hv
  have he:dE x.f5 y.f5 j=EQ (x.f5[j*2+1]'(by omega)) (y.f5[i*2+1]'(by omega)):=by
   unfold dE
   rw[List.getElem?_eq_getElem (show j*2<x.f5.length by omega),List.getElem?_eq_getElem (show j*2+1<x.f5.length by omega)]
   exact pair_some hf (by omega)
  rw[he]
  exact(ih W hW).eq ((r1 j hj (by omega) (by omega)).2.1.below hW) ((r2 i hi (by omega) (by omega)).2.1.below hW) (c1 _ (List.getElem_mem _)) (c2 _ (List.getElem_mem _)) W (Below.refl _ W)
theorem cdDict_c (k:Int) (hk:KOk k) (n:Nat) (hn:n+1≤8) (d d':Int) (hd0: ¬d<1) (hd2:d≤1000) (hd:d-1=d') (hw:IntKind.i64.wrap d'=d') (B1 B2:Nat) (v1 v2:Value) (x y:VT) (w:World) (p1:PV B1 (n+1) w v1 x) (p2:PV B2 (n+1) w v2 y)
 (cx:CT (n+1) x) (cy:CT (n+1) y) (kx:x.f0=8) (ky:y.f0=8) (ih:CdAll n d' w) (hT:Thr w) (hL:Lim w):
 Calls Tryz.prog 29 #[.int .i8 (tokOf k),v1,v2, .int .i64 d] w fun e w'=>CmpR (cmpV (n+2) k x y) e∧Below w.heap.size w w':=by
 have HS:=sameTypeP_c p1 p2
 rw[show(x.f0==y.f0)=true by rw[kx,ky];rfl] at HS
 obtain⟨m1,hm1,bx,lx,c1,q1⟩:=cx.isBox (by omega)
 have e1:n=m1:=by omega
 subst e1
 obtain⟨m2,hm2,bY,ly,c2,q2⟩:=cy.isBox (by omega)
 have e2:n=m2:=by omega
 subst e2
 have D1:DictOk n x.f5:=by rcases q1 with h|h|⟨_,h⟩|⟨h,_⟩<;>first|exact h|(exfalso;omega)
 have D2:DictOk n y.f5:=by rcases q2 with h|h|⟨_,h⟩|⟨h,_⟩<;>first|exact h|(exfalso;omega)
 have o1: ∃g es,v1= .iface 99 (.pointer (some ⟨g,0,none⟩))∧B1≤g∧HTab w g 183 (!es.isEmpty) es 0∧x.f5.length=es.length*2∧ ∀i (h:i<es.length) (h1:i*2<x.f5.length) (h2:i*2+1<x.f5.length),PV B1 n w es[i].k x.f5[i*2]∧PV B1 n w es[i].v x.f5[i*2+1]∧es[i].h=hkey x.f5[i*2]:=by
  rcases p1 with h|⟨_,h|h|h|h⟩
  ·exfalso;have:=h.kind;omega
  ·exfalso;omega
  ·exfalso;omega
  ·exact h.2
  ·exfalso;omega
 have o2: ∃g es,v2= .iface 99 (.pointer (some ⟨g,0,none⟩))∧B2≤g∧HTab w g 183 (!es.isEmpty) es 0∧y.f5.length=es.length*2∧ ∀i (h:i<es.length) (h1:i*2<y.f5.length) (h2:i*2+1<y.f5.length),PV B2 n w es[i].k y.f5[i*2]∧PV B2 n w es[i].v y.f5[i*2+1]∧es[i].h=hkey y.f5[i*2]:=by
  rcases p2 with h|⟨_,h|h|h|h⟩
  ·exfalso;have:=h.kind;omega
  ·exfalso;omega
  ·exfalso;omega
  ·exact h.2
  ·exfalso;omega
 obtain⟨g1,es1,rfl,_,t1,l1,r1⟩:=o1
 obtain⟨g2,es2,rfl,_,t2,l2,r2⟩:=o2
 have hres:cmpV (n+2) k x y=onlyEq (tokOf k) (EQ x y):=by
  by_cases h1:k=13∨k=14
  ·exact cmpV_eq h1
  ·rw[cmpV_none h1 (Or.inr kx) (kx.trans ky.symm),onlyEq_no (tok_ne hk (fun e=>h1 (Or.inl e)) (fun e=>h1 (Or.inr e)))]
 rw[hres]
 exact cdCmp_c 99 295 _ _ (tokOf k) d _ w hd0 hd2 as109Dict methCmpDict (enters_of Tryz.func295 (by kernel_rfl) rfl) (Lib.hid HS)
  (Lib.hid fun W hW=>dictSame_c g1 g2 (tokOf k) d (EQ x y) W hk.tok (Lib.hid (dict_eq_c n (by omega) d d' hd hw g1 g2 B1 B2 es1 es2 x y W cx cy hn kx ky (t1.below hW) (t2.below hW) l1 l2
   (fun i h h1 h2=>⟨(r1 i h h1 h2).1.below hW,(r1 i h h1 h2).2.1.below hW,(r1 i h h1 h2).2.2⟩) (fun i h h1 h2=>⟨(r2 i h h1 h2).1.below hW,(r2 i h h1 h2).2.1.below hW,(r2 i h h1 h2).2.2⟩) c1 c2 D1 D2
   (fun W' hW'=>ih W' (hW.trans (hW'.mono hW.size))) (hT.below hW) (hL.below hW))))
def sF (xs ys:List VT) (j:Nat):Bool:=match xs[j]? with
 |some a=>(findV EQ ys 1 a).isSome
 |none=>true
theorem sF_eq {xs ys:List VT} {j:Nat} (h:j<xs.length):sF xs ys j=(findV EQ ys 1 xs[j]).isSome:=by
 unfold sF
 rw[List.getElem?_eq_getElem h]
theorem allAt_in (x y:VT):allAt x.f5.length (sF x.f5 y.f5)=inAll x y:=by
 unfold inAll
 cases hq:allAt x.f5.length (sF x.f5 y.f5) with
 |true=>
  unfold allAt at hq
  rw[List.all_eq_true] at hq
  symm
  rw[List.all_eq_true]
  intro k hk
  obtain⟨i,hi,rfl⟩:=List.getElem_of_mem hk
  rw[←sF_eq hi]
  exact hq i (by simpa using hi)
 |false=>
  unfold allAt at hq
  rw[List.all_eq_false] at hq
  obtain⟨j,hj,h⟩:=hq
  have hj':j<x.f5.length:=by simpa using hj
  symm
  rw[List.all_eq_false]
  exact⟨_,List.getElem_mem hj',by rw[←sF_eq hj'];exact h⟩
theorem setEq_V {n n':Nat} {x y:VT} (cx:CT n x) (cy:CT n' y) (hn:n≤8) (hn':n'≤8) (kx:x.f0=9) (ky:y.f0=9):(decide (x.f5.length=y.f5.length)&&allAt x.f5.length (sF x.f5 y.f5))=EQ x y:=by
 have hEQ:=EQ_open cx cy hn hn'
 rw[if_neg (by unfold isNum;rw[kx];simp)] at hEQ
 rw[allAt_in]
 by_cases hl:x.f5.length=y.f5.length
 ·rw[if_neg (by omega),if_neg (by omega),if_neg (by omega),if_neg (by omega),if_pos kx] at hEQ
  rw[hEQ,decide_eq_true hl,Bool.true_and]
  rfl
 ·rw[if_pos (Or.inr hl)] at hEQ
  rw[hEQ,decide_eq_false hl,Bool.false_and]
theorem heap_far (w:World) (p:Addr) (v:Value) (j:Nat) (h:j≠p.block):(w.setCell p v).heap[j]?=w.heap[j]?:=by
 simp only[World.setCell,Array.getElem?_modify]
 rw[if_neg (by omega)]
theorem htArr_it (g:Nat) (tab:Bool) (es:List HEnt) (a b:Int):(htArr g tab es a).setIfInBounds 43 (.int .u32 b)=htArr g tab es b:=by
 have hs: ∀c,(htArr g tab es c).size=47:=fun c=>by simp[htArr]
 refine Array.ext_getElem? fun i=>?_
 rw[Array.getElem?_setIfInBounds,hs]
 by_cases h:43=i
 ·subst h
  rw[if_pos rfl,if_pos (by decide),htArr_at _ _ _ _ _ (by decide)]
  rfl
 ·rw[if_neg h]
  by_cases hi:i<47
  ·rw[htArr_at _ _ _ _ _ hi,htArr_at _ _ _ _ _ hi]
   unfold htCell
   rw[if_neg (show¬i=43 by omega),if_neg (show¬i=43 by omega)]
  ·rw[Array.getElem?_eq_none (by rw[hs];omega),Array.getElem?_eq_none (by rw[hs];omega)]
section
variable {w:World} {g:Nat} {T:TypeId} {tab:Bool} {es:List HEnt} {a:Int}
theorem HTab.setIt (h:HTab w g T tab es a) (b:Int):HTab (w.setCell ⟨g,43,none⟩ (.int .u32 b)) g T tab es b:=blk_put h _ _ (htArr_it g tab es a b)
theorem HTab.farIt {g':Nat} (h:HTab w g' T tab es a) (hne:g'≠g) (v:Value):HTab (w.setCell ⟨g,43,none⟩ v) g' T tab es a:=(heap_far w ⟨g,43,none⟩ v g' hne).trans h
theorem HTab.someIt {g':Nat} (h:HTab w g' T tab es a) (b:Int): ∃c,HTab (w.setCell ⟨g,43,none⟩ (.int .u32 b)) g' T tab es c:=by
 by_cases e:g'=g
 ·subst e;exact⟨b,h.setIt b⟩
 ·exact⟨a,h.farIt e _⟩
theorem cell_it {b o:Nat} {u:Value} (h:HTab w g T tab es a) (hu:w.cell? ⟨b,o,none⟩=some u) (hne:u≠ .int .u32 a) (v:Value):(w.setCell ⟨g,43,none⟩ v).cell? ⟨b,o,none⟩=some u:=by
 have hn:(⟨b,o,none⟩:Addr)≠⟨g,43,none⟩:=by
  intro e
  rw[e,h.cell 43 (by decide)] at hu
  exact hne (Option.some.inj hu).symm
 rw[World.cell?_setCell_other (h:=by first|exact hn|exact hn.symm),hu]
theorem Sl.it {B:Nat} {v:Value} {l:List Int} (ht:HTab w g T tab es a) (z:Value) (h:Sl .u64 B w v l):Sl .u64 B (w.setCell ⟨g,43,none⟩ z) v l:=by
 obtain⟨A,c,rfl,h1,h2,h3⟩:=h
 refine⟨A,c,rfl,h1,h2,fun hne=>?_⟩
 obtain⟨b,o,rfl,hB,hlt,hc⟩:=h3 hne
 exact⟨b,o,rfl,hB,by simpa [World.setCell] using hlt,fun j hj=>cell_it ht (hc j hj) (by simp) z⟩
theorem ScaV.it {B:Nat} {v:Value} {s:Sca} (ht:HTab w g T tab es a) (z:Value) (h:ScaV B w v s):ScaV B (w.setCell ⟨g,43,none⟩ z) v s:=by
  cases s<;>first|exact h|skip
  obtain⟨u,rfl,h⟩:=h
  refine⟨u,rfl,?_⟩
  rcases h with h|⟨h,g',neg,v,zs,e,hg,hi,r⟩
  ·exact Or.inl h
  · have hne:g'≠g:=by
      rintro rfl
      have e1:=Option.some.inj (ht.symm.trans hi.blk)
      injection e1 with e2 _ _
      have e3:=congrArg Array.size e2
      simp[htArr] at e3
    exact Or.inr ⟨h,g',neg,v,zs,e,hg,⟨(heap_far w ⟨g,43,none⟩ z g' hne).trans hi.blk,hi.sl.it ht z,hi.words,hi.top⟩,r⟩
theorem PVs.it {B:Nat} {v:Value} {x:VT} (ht:HTab w g T tab es a) (z:Value) (h:PVs B w v x):PVs B (w.setCell ⟨g,43,none⟩ z) v x:=by
 obtain⟨s,h1,h2,h3⟩:=h
 exact⟨s,h1,h2,h3.it ht z⟩
theorem PV.it {B:Nat} (ht:HTab w g T tab es a) (z:Value): ∀{n m:Nat} {v:Value} {x:VT},HC m x→PV B n w v x→PV B n (w.setCell ⟨g,43,none⟩ z) v x
  |0,m,v,x,_,h=>PVs.it ht z h
  |n+1,m,v,x,hx,h=>by
    rcases h with h|⟨hb,h⟩
    ·exact Or.inl (h.it ht z)
    · have hk:x.f0<6∨x.f0=7:=by
        rcases hx.cases with h|⟨h,_⟩
        ·exact Or.inl h.kind.2
        ·exact Or.inr h
      refine Or.inr ⟨hb,?_⟩
      rcases h with⟨h6,_⟩|⟨h7,sl,e,hr⟩|⟨h8,_⟩|⟨h9,_⟩
      ·exfalso;omega
      · refine Or.inr (Or.inl ⟨h7,sl,e,?_⟩)
        obtain⟨A,c,us,rfl,h1,h2,h3,h4⟩:=hr
        have hkids: ∀k∈x.f5,HC (m-1) k:=fun k hk=>hx.of_kid hk
        refine⟨A,c,us,rfl,h1,h2,fun hne=>?_,fun i q1 q2=>PV.it ht z (hkids _ (List.getElem_mem q2)) (h4 i q1 q2)⟩
        obtain⟨M,o,rfl,hB,hc⟩:=h3 hne
        refine⟨M,o,rfl,hB,fun i hi=>cell_it ht (hc i hi) ?_ z⟩
        obtain⟨T',u',e'⟩:=(h4 i hi (by omega)).iface
        rw[e']
        intro e2;cases e2
      ·exfalso;omega
      ·exfalso;omega
theorem Thr.it (h:Thr w) (ht:HTab w g T tab es a) (z:Value):Thr (w.setCell ⟨g,43,none⟩ z):=cell_it ht h (by simp) z
theorem Lim.it (h:Lim w) (ht:HTab w g T tab es a) (z:Value):Lim (w.setCell ⟨g,43,none⟩ z):=cell_it ht h (by simp) z
theorem Below.itBack {W:World} (ht:HTab w g T tab es 0) (hlt:g<w.heap.size) (h:Below w.heap.size (w.setCell ⟨g,43,none⟩ (.int .u32 1)) W):Below w.heap.size w (W.setCell ⟨g,43,none⟩ (.int .u32 0)):=by
 refine⟨h.os,h.tape,h.output,?_,fun k hk=>?_⟩
 ·have:=h.size
  simpa [World.setCell] using this
 ·by_cases e:k=g
  ·subst e
   have h1:HTab W k T tab es 1:=(h.block k hk).trans (ht.setIt 1)
   exact(h1.setIt 0).trans ht.symm
  ·rw[heap_far W ⟨g,43,none⟩ _ k e,h.block k hk,heap_far w ⟨g,43,none⟩ _ k e]
end
def SetI (B n:Nat) (w:World) (g:Nat) (es:List HEnt) (x:VT) (it:Int):Prop:=HTab w g 185 (!es.isEmpty) es it∧x.f5.length=es.length∧
 ∀i (h:i<es.length) (h1:i<x.f5.length),PV B n w es[i].k x.f5[i]∧es[i].v= .iface 137 (.int .u8 0)∧es[i].h=hkey x.f5[i]
theorem SetI.below {B n g:Nat} {w W:World} {es:List HEnt} {x:VT} {it:Int} (h:SetI B n w g es x it) (hW:Below w.heap.size w W):SetI B n W g es x it:=
 ⟨h.1.below hW,h.2.1,fun i h1 h2=>⟨(h.2.2 i h1 h2).1.below hW,(h.2.2 i h1 h2).2⟩⟩
theorem hasTree_c (n n2:Nat) (hn:n≤8) (g B1 B2:Nat) (es:List HEnt) (it:Int) (u:Value) (a y:VT) (w:World) (s2:SetI B2 n2 w g es y it) (pu:PV B1 n w u a) (ha:HC n a) (c2: ∀k∈y.f5,CT n2 k) (D2:SetOk n2 y.f5) (hT:Thr w) (hL:Lim w):
 Calls Tryz.prog 313 #[.pointer (some ⟨g,0,none⟩),u] w fun e w'=>e= .returned (.tuple #[.bool (findV EQ y.f5 1 a).isSome, .nilIface])∧Below w.heap.size w w':=by
 obtain⟨t2,l2,r2⟩:=s2
 have hk2:es.length≤8:=by have:=D2.1;omega
 have l2':y.f5.length=es.length*1:=by omega
 refine setHas_c g u _ w fun W hW=>?_
 refine(lookTree_c 1 (by decide) g _ it es n n2 B1 B2 u a y.f5 W (t2.below hW) hk2 l2' (pu.below hW) ha hn
  (fun i hi h1=>⟨by have:=(r2 i hi (by omega)).1.below hW;simpa using this,by have:=(r2 i hi (by omega)).2.2;simpa using this⟩) (fun i h1=>hc_of (c2 _ (List.getElem_mem _)) (D2.2.1 _ (List.getElem_mem _))) D2.2.2 (hT.below hW) (hL.below hW)).mono ?_
 rintro e W2 ⟨hg,hb⟩
 refine⟨?_,hb⟩
 cases hf:foundV es y.f5 1 a with
 |none=>
  rw[hf] at hg
  have:(findV EQ y.f5 1 a)=none:=by
   cases hq:findV EQ y.f5 1 a with
   |none=>rfl
   |some i=>
    exfalso
    obtain⟨j,hj,rfl,_⟩:=findV_some (by decide) hq
    unfold foundV at hf
    rw[hq] at hf
    have hke:j<es.length:=by omega
    simp[List.getElem?_eq_getElem hke] at hf
  rw[this]
  exact⟨_,hg⟩
 |some v=>
  rw[hf] at hg
  obtain⟨j,_,_,h⟩:=found_at (by decide) l2' hf
  rw[h]
  exact⟨_,hg⟩
theorem set_eq_c (n:Nat) (hn:n≤8) (g1 g2 B1 B2:Nat) (es1 es2:List HEnt) (x y:VT) (w:World) (cx:CT (n+1) x) (cy:CT (n+1) y) (hn1:n+1≤8) (kx:x.f0=9) (ky:y.f0=9) (s1:SetI B1 n w g1 es1 x 0) (s2:SetI B2 n w g2 es2 y 0)
 (c1: ∀k∈x.f5,CT n k) (c2: ∀k∈y.f5,CT n k) (D1:SetOk n x.f5) (D2:SetOk n y.f5) (hT:Thr w) (hL:Lim w):
 Calls Tryz.prog 310 #[.pointer (some ⟨g1,0,none⟩), .pointer (some ⟨g2,0,none⟩)] w fun e w'=>e= .returned (.tuple #[.bool (EQ x y), .nilIface])∧Below w.heap.size w w':=by
 have hk1:es1.length≤8:=by have:=D1.1;have:=s1.2.1;omega
 have hk2:es2.length≤8:=by have:=D2.1;have:=s2.2.1;omega
 rw[←setEq_V cx cy hn1 hn1 kx ky,s1.2.1,s2.2.1]
 refine setsEqual_c g1 g2 _ _ es1 es2 0 0 (sF x.f5 y.f5) w s1.1 s2.1 hk1 hk2 (fun j hj=>(s1.2.2 j hj (by have:=s1.2.1;omega)).1.iface) fun j hj W hW=>?_
 have hj':j<x.f5.length:=by have:=s1.2.1;omega
 rw[sF_eq hj']
 exact hasTree_c n n hn g2 B1 B2 es2 0 _ _ y W (s2.below hW) ((s1.2.2 j hj hj').1.below hW) (hc_of (c1 _ (List.getElem_mem _)) (D1.2.1 _ (List.getElem_mem _))) c2 D2 (hT.below hW) (hL.below hW)
def ItB (w:World) (K g n j:Nat):Prop:=w.heap[K]?=some (.cells #[.pointer (some ⟨g,0,none⟩),entP g n j] 280 (0,0))
theorem methNext (v:Value) (w:World):(method 560 218 v "Next").run Tryz.prog w= .ok (388,v) w:=by kernel_rfl
structure NextR (w:World) (K X g n j:Nat) (key:Value) (w':World):Prop where
 it:ItB w' K g n (j+1)
 xb:w'.heap[X]?=some (.cells #[key] 57 (0,0))
 far: ∀k,k≠K→k≠X→w'.heap[k]?=w.heap[k]?
 size:w'.heap.size=w.heap.size
 low: ∀w0:World,w0.heap.size≤K→w0.heap.size≤X→Below w0.heap.size w0 w→Below w0.heap.size w0 w'
theorem nextR_of {w:World} {K X g n j:Nat} {u key:Value} (hne:X≠K) (hI:ItB w K g n j) (hx:w.heap[X]?=some (.cells #[u] 57 (0,0))):NextR w K X g n j key ((w.setCell ⟨X,0,none⟩ key).setCell ⟨K,1,none⟩ (entP g n (j+1))):=by
 refine⟨?_,?_,fun k h1 h2=>?_,by simp[World.setCell],fun w0 h1 h2 hb=>(hb.setCell (p:=⟨X,0,none⟩) h2 _).setCell (p:=⟨K,1,none⟩) h1 _⟩
 ·exact blk_put (((heap_far w ⟨X,0,none⟩ key K (fun e=>hne e.symm)).trans hI)) 1 _ rfl
 ·exact(heap_far _ ⟨K,1,none⟩ _ X hne).trans (blk_put hx 0 _ rfl)
 ·rw[heap_far _ ⟨K,1,none⟩ _ k h1,heap_far w ⟨X,0,none⟩ _ k h2]
set_option maxRecDepth 100000 in
theorem next_c (K X g:Nat) (T:TypeId) (tab:Bool) (es:List HEnt) (it:Int) (j:Nat) (u:Value) (w:World) (hI:ItB w K g es.length j) (ht:HTab w g T tab es it) (hn:es.length≤8) (hj:j<es.length) (hx:w.heap[X]?=some (.cells #[u] 57 (0,0))) (hXK:X≠K) (hXg:X≠g) (hk: ∃T x,es[j].k= .iface T x):
 Calls Tryz.prog 388 #[.pointer (some ⟨K,0,none⟩), .pointer (some ⟨X,0,none⟩)] w fun e w'=>e= .returned (.bool true)∧NextR w K X g es.length j es[j].k w':=by
 have HR:=Lib.hid (nextR_of (key:=es[j].k) hXK hI hx)
 have hlen:=lt_blk hI
 obtain⟨W1,hW1⟩: ∃W,W=w.setCell ⟨X,0,none⟩ es[j].k:=⟨_,rfl⟩
 have hI1:ItB W1 K g es.length j:=by rw[hW1];exact(heap_far w ⟨X,0,none⟩ _ K (fun e=>hXK e.symm)).trans hI
 have ht1:HTab W1 g T tab es it:=by rw[hW1];exact(heap_far w ⟨X,0,none⟩ _ g (fun e=>hXg e.symm)).trans ht
 rw[←hW1] at HR
 unfold ItB at hI hI1
 rw[entP_some hj] at hI hI1
 have k0:=blk_cell hI 0 _ rfl
 have k1:=blk_cell hI 1 _ rfl
 have q0:=blk_cell hI1 0 _ rfl
 have q1:=blk_cell hI1 1 _ rfl
 have f1:=blk_free hI1 1
 have x0:=blk_cell hx 0 _ rfl
 have fx:=blk_free hx 0
 have e1:=(ht.ent hn j hj).1
 have e3:=(ht1.ent hn j hj).2.2
 obtain⟨TK,kx,hkk⟩:=hk
 obtain⟨ne,hne⟩: ∃v,entP g es.length (j+1)=v:=⟨_,rfl⟩
 have hpt: ∃o,ne= .pointer o:=by
  rw[←hne]
  unfold entP
  split<;>exact⟨_,rfl⟩
 obtain⟨no,rfl⟩:=hpt
 rw[hkk] at e1 hW1
 rw[hne] at e3 HR
 rw[hkk] at HR
 rw[hkk]
 clear hI hI1 ht ht1 hx hkk hne hn
 go_enter Tryz.func388,Tryz.ntmps388
 go_upto_region 3 with fail
 rw[←hW1]
 clear hW1
 go_wp2
 go_ret
 exact⟨rfl,HR.out⟩
theorem nextEnd_c (K X g n:Nat) (w:World) (hI:ItB w K g n n):Calls Tryz.prog 388 #[.pointer (some ⟨K,0,none⟩), .pointer (some ⟨X,0,none⟩)] w fun e w'=>e= .returned (.bool false)∧w'=w:=by
 unfold ItB at hI
 rw[entP_none] at hI
 have k1:=blk_cell hI 1 _ rfl
 clear hI
 go_enter Tryz.func388,Tryz.ntmps388
 go_wp2
 go_ret
 exact⟨rfl,rfl⟩
def itOff (w:World) (K:Nat):Nat:=match w.cell? ⟨K,1,none⟩ with
 |some v=>offOf v
 |none=>0
theorem itOff_eq {w:World} {K g n j:Nat} (h:ItB w K g n j):itOff w K=offOf (entP g n j):=by
 unfold itOff
 rw[blk_cell h 1 _ rfl]
 rfl
theorem itOff_next {w w':World} {K g n j:Nat} (h:ItB w K g n j) (h':ItB w' K g n (j+1)) (hj:j<n) (hn:n≤8):itOff w' K<itOff w K:=by
 rw[itOff_eq h,itOff_eq h',entP_some hj]
 exact off_next hj hn
theorem allAt_in2 (x y:VT) {j:Nat} (hj:j<y.f5.length) (h:(findV EQ x.f5 1 y.f5[j]).isSome=false):inAll y x=false:=by
 rw[←allAt_in]
 exact allAt_false hj (by rw[sF_eq hj];exact h)
theorem in_allT (x y:VT) (h: ∀q (hq:q<y.f5.length),(findV EQ x.f5 1 y.f5[q]).isSome=true):inAll y x=true:=by
 rw[←allAt_in]
 exact allAt_true fun j hj=>by rw[sF_eq hj];exact h j hj
structure MidR (w0:World) (K X g n j:Nat) (wr:World):Prop where
 low:Below w0.heap.size w0 wr
 it:ItB wr K g n j
 xb: ∃u,wr.heap[X]?=some (.cells #[u] 57 (0,0))
theorem MidR.below {w0 w w':World} {K X g n j:Nat} (h:MidR w0 K X g n j w) (hb:Below w.heap.size w w'):MidR w0 K X g n j w':=by
 obtain⟨u,hu⟩:=h.xb
 exact⟨h.low.trans (hb.mono h.low.size),blk_below h.it hb,u,blk_below hu hb⟩
set_option maxRecDepth 100000 in
set_option maxHeartbeats 1000000 in
theorem superset_c (n:Nat) (hn:n≤8) (g1 g2 K B1 B2:Nat) (es1 es2:List HEnt) (i1 i2:Int) (x y:VT) (w0 w:World) (hB:Below w0.heap.size w0 w) (hI:ItB w K g2 es2.length 0) (hK:w0.heap.size≤K) (s1:SetI B1 n w0 g1 es1 x i1) (s2:SetI B2 n w0 g2 es2 y i2)
 (c1: ∀k∈x.f5,CT n k) (c2: ∀k∈y.f5,CT n k) (D1:SetOk n x.f5) (D2:SetOk n y.f5) (hT:Thr w0) (hL:Lim w0):
 Calls Tryz.prog 311 #[.pointer (some ⟨g1,0,none⟩), .iface 218 (.pointer (some ⟨K,0,none⟩))] w fun e w'=>e= .returned (.tuple #[.bool (inAll y x), .nilIface])∧ ∃j X,MidR w0 K X g2 es2.length j w':=by
 have hk2:es2.length≤8:=by have:=D2.1;have:=s2.2.1;omega
 have hKw:=lt_blk hI
 have hXK:w.heap.size≠K:=by omega
 have hXg:w.heap.size≠g2:=by have:=lt_blk s2.1;have:=hB.size;omega
 have hXw:w0.heap.size≤w.heap.size:=hB.size
 have hl2:=s2.2.1
 have HN:Hid (∀j (hj:j<es2.length) wr,MidR w0 K w.heap.size g2 es2.length j wr→Calls Tryz.prog 388 #[.pointer (some ⟨K,0,none⟩), .pointer (some ⟨w.heap.size,0,none⟩)] wr fun e w'=>e= .returned (.bool true)∧MidR w0 K w.heap.size g2 es2.length (j+1) w'∧w'.cell? ⟨w.heap.size,0,none⟩=some es2[j].k):=Lib.hid fun j hj wr hm=>by
  obtain⟨u,hu⟩:=hm.xb
  refine(next_c K w.heap.size g2 _ _ es2 i2 j u wr hm.it (s2.1.below hm.low) hk2 hj hu hXK hXg (s2.2.2 j hj (by omega)).1.iface).mono ?_
  rintro e w' ⟨rfl,hr⟩
  exact⟨rfl,⟨hr.low w0 hK hXw hm.low,hr.it,_,hr.xb⟩,blk_cell hr.xb 0 _ rfl⟩
 have HE:Hid (∀wr,MidR w0 K w.heap.size g2 es2.length es2.length wr→Calls Tryz.prog 388 #[.pointer (some ⟨K,0,none⟩), .pointer (some ⟨w.heap.size,0,none⟩)] wr fun e w'=>e= .returned (.bool false)∧w'=wr):=Lib.hid fun wr hm=>nextEnd_c K _ g2 _ wr hm.it
 have HH:Hid (∀j (hj:j<es2.length) W,Below w0.heap.size w0 W→Calls Tryz.prog 313 #[.pointer (some ⟨g1,0,none⟩),es2[j].k] W fun e W'=>e= .returned (.tuple #[.bool (findV EQ x.f5 1 (y.f5[j]'(by omega))).isSome, .nilIface])∧Below W.heap.size W W'):=Lib.hid fun j hj W hW=>
  hasTree_c n n hn g1 B2 B1 es1 i1 _ _ x W (s1.below hW) ((s2.2.2 j hj (by omega)).1.below hW) (hc_of (c2 _ (List.getElem_mem _)) (D2.2.1 _ (List.getElem_mem _))) c1 D1 (hT.below hW) (hL.below hW)
 have HIF:Hid (∀j (hj:j<es2.length),∃T x,es2[j].k= .iface T x):=Lib.hid fun j hj=>(s2.2.2 j hj (by omega)).1.iface
 have HL2:=Lib.hid hl2
 have HK2:=Lib.hid hk2
 have hmn:=methNext (.pointer (some ⟨K,0,none⟩))
 obtain⟨W0,hW0⟩: ∃W,W=w.alloc (.cells #[.nilIface] 57):=⟨_,rfl⟩
 have HM0:Hid (MidR w0 K w.heap.size g2 es2.length 0 W0):=by
  rw[hW0]
  have hb:=(Below.refl w.heap.size w).alloc (Nat.le_refl _) (.cells #[.nilIface] 57)
  exact Lib.hid ⟨hB.trans (hb.mono hB.size),blk_below hI hb,_,blk_new _ _⟩
 clear hB hI s1 s2 c1 c2 D1 D2 hT hL hXK hXg hKw
 go_enter Tryz.func311,Tryz.ntmps311
 go_wp2_with fail
 rw[←hW0]
 clear hW0
 go_loopw [7] (fun v wr=> ∃j:Nat,j≤es2.length∧Hid (∀q (hq:q<y.f5.length),q<j→(findV EQ x.f5 1 y.f5[q]).isSome=true)∧Hid (MidR w0 K w.heap.size g2 es2.length j wr)) (fun v wr=>itOff wr K)
 case atStart=>exact⟨0,Nat.zero_le _,Lib.hid fun q _ h=>absurd h (Nat.not_lt_zero _),HM0⟩
 case round=>
  obtain⟨j,hj0,HQ,HM⟩:=hrel
  by_cases hlt:j<es2.length
  ·have HNj:=Lib.hid (HN.out j hlt _ HM.out)
   have HHj:=Lib.hid (HH.out j hlt)
   obtain⟨TK,kx,hk⟩:=HIF.out j hlt
   have hly:j<y.f5.length:=by have:=HL2.out;omega
   obtain⟨b,hb⟩: ∃b,(findV EQ x.f5 1 y.f5[j]).isSome=b:=⟨_,rfl⟩
   have HBQ:=Lib.hid hb
   rw[hb] at HHj
   rw[hk] at HNj HHj
   have HIt:=Lib.hid HM.out.it
   have HJ:=Lib.hid hlt
   clear hk hb hlt
   cases b
   ·go_wp2_with (first
    |(go_at_call 388;(with_reducible refine HNj.out.mono ?_);rintro e w1 ⟨rfl,hm1,hx1⟩;replace HM:=Lib.hid hm1;clear hm1)
    |(go_at_call 313;(with_reducible refine(HHj.out _ HM.out.low).mono ?_);rintro e w2 ⟨rfl,hb2⟩;have HB2:=Lib.hid (HM.out.below hb2);clear hb2))
    (try rw[Exit.noGoto_ret])
    go_ret2
    exact⟨by rw[allAt_in2 x y hly HBQ.out];rfl,_,_,HB2.out⟩
   ·go_wp2_with (first
    |(go_at_call 388;(with_reducible refine HNj.out.mono ?_);rintro e w1 ⟨rfl,hm1,hx1⟩;replace HM:=Lib.hid hm1;clear hm1)
    |(go_at_call 313;(with_reducible refine(HHj.out _ HM.out.low).mono ?_);rintro e w2 ⟨rfl,hb2⟩;have HM2:=Lib.hid (HM.out.below hb2);clear hb2))
    go_roundw
    case rel=>exact⟨j+1,HJ.out,Lib.hid (fun q hq h=>by
     by_cases h9:q<j
     ·exact HQ.out q hq h9
     ·have e2:q=j:=by omega
      subst e2
      exact HBQ.out),HM2⟩
    case measure=>exact itOff_next HIt.out HM2.out.it HJ.out HK2.out
  ·obtain rfl:j=es2.length:=by omega
   have HEj:=Lib.hid (HE.out _ HM.out)
   go_wp2_with (go_at_call 388;(with_reducible refine HEj.out.mono ?_);rintro e w1 ⟨rfl,hw1⟩;have hw2:=hw1.symm;clear hw1;subst hw2)
   go_ret2
   exact⟨by rw[in_allT x y fun q hq=>HQ.out q hq (by have:=HL2.out;omega)];rfl,_,_,HM.out⟩
def eqAt (xs ys:List VT) (q j:Nat):Bool:=match ys[q]?,xs[j]? with
 |some b,some a=>EQ b a
 |_,_=>false
theorem eqAt_eq {xs ys:List VT} {q j:Nat} (h1:q<ys.length) (h2:j<xs.length):eqAt xs ys q j=EQ ys[q] xs[j]:=by
 unfold eqAt
 rw[List.getElem?_eq_getElem h1,List.getElem?_eq_getElem h2]
def hit (xs ys:List VT) (r j:Nat):Bool:=(List.range r).any fun q=>eqAt xs ys q j
theorem hit_succ (xs ys:List VT) (r j:Nat):hit xs ys (r+1) j=(hit xs ys r j||eqAt xs ys r j):=by
 unfold hit
 rw[List.range_succ,List.any_append]
 simp
def hitS (xs ys:List VT) (r s j:Nat):Bool:=hit xs ys r j||(eqAt xs ys r j&&decide (7-j<s))
theorem countP_one {P Q:Nat→Bool} {j0:Nat} (h1:P j0=false) (h2:Q j0=true): ∀(n:Nat),(∀j,j<n→j≠j0→Q j=P j)→(List.range n).countP Q=(List.range n).countP P+(if j0<n then 1 else 0)
 |0,_=>by simp
 |n+1,h=>by
  have ih:=countP_one h1 h2 n fun j hj hne=>h j (by omega) hne
  rw[List.range_succ,List.countP_append,List.countP_append,ih]
  simp only[List.countP_singleton]
  by_cases e:n=j0
  ·subst e
   rw[h1,h2,if_neg (Nat.lt_irrefl _),if_pos (Nat.lt_succ_self _)]
   simp
  ·rw[h n (Nat.lt_succ_self _) e]
   have e2:(if j0<n+1 then 1 else 0)=(if j0<n then 1 else 0):=by
    by_cases hl:j0<n
    ·rw[if_pos hl,if_pos (by omega)]
    ·rw[if_neg hl,if_neg (by omega)]
   rw[e2]
   omega
theorem countP_same {P Q:Nat→Bool} (n:Nat) (h: ∀j,j<n→Q j=P j):(List.range n).countP Q=(List.range n).countP P:=
 List.countP_congr fun j hj=>by rw[h j (by simpa using hj)]
structure CntR (xs ys:List VT) (r s c M:Nat):Prop where
 cnt:c=(List.range xs.length).countP (hitS xs ys r s)
 lt:M<256
 bit: ∀t,t<8→M.testBit t=(decide (7-t<xs.length)&&hitS xs ys r s (7-t))
theorem cnt_start (xs ys:List VT):CntR xs ys 0 0 0 0:=by
 have h: ∀j,hitS xs ys 0 0 j=false:=fun j=>by unfold hitS hit;simp
 refine⟨?_,by decide,fun t ht=>by rw[h];simp⟩
 symm
 rw[List.countP_eq_zero]
 intro j _
 rw[h j]
 simp
theorem hitS_next (xs ys:List VT) (r j:Nat):hitS xs ys (r+1) 0 j=hitS xs ys r 8 j:=by
 unfold hitS
 rw[hit_succ]
 have:decide (7-j<8)=true:=by simp;omega
 rw[this]
 simp
theorem CntR.next {xs ys:List VT} {r c M:Nat} (h:CntR xs ys r 8 c M):CntR xs ys (r+1) 0 c M:=
 ⟨by rw[h.cnt];exact(countP_same _ fun j _=>hitS_next xs ys r j).symm,h.lt,fun t ht=>by rw[h.bit t ht,hitS_next]⟩
theorem hitS_slot {xs ys:List VT} {r s j:Nat} (hj:j<8) (hs:s<8) (hne:j≠7-s):hitS xs ys r (s+1) j=hitS xs ys r s j:=by
 unfold hitS
 have:decide (7-j<s+1)=decide (7-j<s):=by
  rw[decide_eq_decide]
  omega
 rw[this]
theorem hitS_no {xs ys:List VT} {r s:Nat} (h:eqAt xs ys r (7-s)=false):hitS xs ys r (s+1) (7-s)=hitS xs ys r s (7-s):=by
 unfold hitS
 rw[h]
 simp
theorem CntR.no {xs ys:List VT} {r s c M:Nat} (h:CntR xs ys r s c M) (hx:xs.length≤8) (hs:s<8) (he:7-s<xs.length→eqAt xs ys r (7-s)=false):CntR xs ys r (s+1) c M:=by
 have hq: ∀j,j<xs.length→hitS xs ys r (s+1) j=hitS xs ys r s j:=fun j hj=>by
  by_cases e:j=7-s
  ·subst e
   exact hitS_no (he hj)
  ·exact hitS_slot (by omega) hs e
 refine⟨by rw[h.cnt];exact(countP_same _ hq).symm,h.lt,fun t ht=>?_⟩
 rw[h.bit t ht]
 by_cases hj:7-t<xs.length
 ·rw[hq _ hj]
 ·rw[decide_eq_false hj];rfl
theorem or_lt: ∀(M:Fin 256) (t:Fin 8),M.1|||2^t.1<256:=by decide+kernel
theorem CntR.yes {xs ys:List VT} {r s c M:Nat} (h:CntR xs ys r s c M) (hx:xs.length≤8) (hs:s<8) (hj:7-s<xs.length) (he:eqAt xs ys r (7-s)=true) (hd: ∀q,q<r→eqAt xs ys q (7-s)=false):M.testBit s=false∧CntR xs ys r (s+1) (c+1) (M|||2^s):=by
 have h0:hit xs ys r (7-s)=false:=by
  unfold hit
  rw[List.any_eq_false]
  intro q hq
  rw[hd q (by simpa using hq)]
  simp
 have hb:hitS xs ys r s (7-s)=false:=by
  unfold hitS
  rw[h0,he,show decide (7-(7-s)<s)=false by simp;omega]
  rfl
 have ha:hitS xs ys r (s+1) (7-s)=true:=by
  unfold hitS
  rw[h0,he,show decide (7-(7-s)<s+1)=true by simp;omega]
  rfl
 refine⟨by rw[h.bit s hs,hb];simp,⟨?_,or_lt ⟨M,h.lt⟩ ⟨s,hs⟩,fun t ht=>?_⟩⟩
 ·rw[h.cnt,countP_one hb ha xs.length fun j hj hne=>hitS_slot (by omega) hs hne,if_pos hj]
 ·rw[Nat.testBit_or,Nat.testBit_two_pow,h.bit t ht]
  by_cases e:s=t
  ·subst e
   rw[ha,decide_eq_true hj]
   simp
  ·rw[decide_eq_false e,Bool.or_false]
   by_cases hjt:7-t<xs.length
   ·rw[hitS_slot (by omega) hs (by omega)]
   ·rw[decide_eq_false hjt];rfl
theorem CntR.le {xs ys:List VT} {r s c M:Nat} (h:CntR xs ys r s c M):c≤xs.length:=by
 rw[h.cnt]
 refine Nat.le_trans List.countP_le_length ?_
 simp
theorem hit_le {xs ys:List VT} {r r' j:Nat} (hr:r≤r') (h:hit xs ys r j=true):hit xs ys r' j=true:=by
 unfold hit at h⊢
 rw[List.any_eq_true] at h⊢
 obtain⟨q,hq,he⟩:=h
 exact⟨q,by simp at hq⊢;omega,he⟩
theorem hit_find {xs ys:List VT} {j:Nat} (hj:j<xs.length):hit xs ys ys.length j=(findV EQ ys 1 xs[j]).isSome:=by
 cases hf:findV EQ ys 1 xs[j] with
 |none=>
  unfold hit
  rw[List.any_eq_false.2 fun q hq=>?_]
  ·rfl
  ·have hq':q<ys.length:=by simpa using hq
   rw[eqAt_eq hq' hj]
   have:=findV_none (by decide) hf q (by omega)
   simp only[Nat.mul_one] at this
   rw[this]
   simp
 |some i=>
  obtain⟨q,hq,e,he⟩:=findV_some (by decide) hf
  unfold hit
  rw[List.any_eq_true.2 ⟨i,by simpa using hq,by rw[eqAt_eq hq hj];exact he⟩]
  rfl
theorem CntR.done {x y:VT} {r c M:Nat} (h:CntR x.f5 y.f5 r 0 c M) (hr:r≤y.f5.length) (hend:c=x.f5.length∨r=y.f5.length):(c==x.f5.length)=inAll x y:=by
 have hh: ∀j,hitS x.f5 y.f5 r 0 j=hit x.f5 y.f5 r j:=fun j=>by unfold hitS;simp
 have hc:c=(List.range x.f5.length).countP (hit x.f5 y.f5 r):=h.cnt.trans (countP_same _ fun j _=>hh j)
 rw[Bool.eq_iff_iff,beq_iff_eq]
 have hall:c=x.f5.length↔ ∀j,j<x.f5.length→hit x.f5 y.f5 r j=true:=by
  rw[hc]
  have:=List.countP_eq_length (p:=hit x.f5 y.f5 r) (l:=List.range x.f5.length)
  rw[List.length_range] at this
  rw[this]
  constructor
  ·exact fun h j hj=>h j (by simpa using hj)
  ·exact fun h j hj=>h j (by simpa using hj)
 constructor
 ·intro e
  rw[←allAt_in]
  refine allAt_true fun j hj=>?_
  rw[sF_eq hj,←hit_find hj]
  exact hit_le hr (hall.1 e j hj)
 ·intro e
  rcases hend with e2|e2
  ·exact e2
  ·rw[hall]
   intro j hj
   rw[←allAt_in] at e
   unfold allAt at e
   rw[List.all_eq_true] at e
   have:=e j (by simpa using hj)
   rw[sF_eq hj,←hit_find hj] at this
   rw[e2]
   exact this
theorem eqAt_one {n n':Nat} {xs ys:List VT} (hx: ∀k∈xs,HC n k) (hy: ∀k∈ys,HC n' k) (hd:Dist 1 ys) {q r j:Nat} (hqr:q<r) (hr:r<ys.length) (hj:j<xs.length) (h:eqAt xs ys r j=true):eqAt xs ys q j=false:=by
 rw[eqAt_eq hr hj] at h
 rw[eqAt_eq (by omega) hj]
 cases hq:EQ (ys[q]'(by omega)) xs[j] with
 |false=>rfl
 |true=>
  exfalso
  have cq:=hy _ (List.getElem_mem (show q<ys.length by omega))
  have cr:=hy _ (List.getElem_mem hr)
  have cj:=hx _ (List.getElem_mem hj)
  have h1:EQ xs[j] ys[r]=true:=(eqV_symm 9 n n' _ _ cj cr).trans h
  have h2:=eqV_trans 9 n' n n' _ _ _ cq cj cr hq h1
  have h3:=hd q r (by omega) hqr
  simp only[Nat.mul_one] at h3
  exact no_both h2 h3
theorem pigeon: ∀(m:Nat) (l:List Nat),l.Nodup→(∀a∈l,a<m)→l.length≤m
  |0,[],_,_=>Nat.le_refl _
  |0,a::l,_,h=>absurd (h a (by simp)) (Nat.not_lt_zero _)
  |m+1,l,hn,h=>by
    by_cases hm:m∈l
    · have:=pigeon m (l.erase m) (hn.erase m) fun a ha=>by
        have h2:=hn.mem_erase_iff.1 ha
        have:=h a h2.2
        have:=h2.1
        omega
      rw[List.length_erase_of_mem hm] at this
      omega
    · have:=pigeon m l hn fun a ha=>by
        have:=h a ha
        have:a≠m:=fun e=>hm (e▸ha)
        omega
      omega
theorem inAll_le {n n':Nat} {x y:VT} (hx: ∀k∈x.f5,HC n k) (hy: ∀k∈y.f5,HC n' k) (hd:Dist 1 x.f5) (h:inAll x y=true):x.f5.length≤y.f5.length:=by
 have hat: ∀i (hi:i<x.f5.length),∃q,∃hq:q<y.f5.length,EQ y.f5[q] x.f5[i]=true:=by
  intro i hi
  rw[←allAt_in] at h
  unfold allAt at h
  rw[List.all_eq_true] at h
  have:=h i (by simpa using hi)
  rw[sF_eq hi] at this
  cases hf:findV EQ y.f5 1 x.f5[i] with
  |none=>rw[hf] at this;cases this
  |some q=>
   obtain⟨q',hq,_,he⟩:=findV_some (by decide) hf
   exact⟨q,hq,he⟩
 obtain⟨f,hf⟩: ∃f:Nat→Nat,∀i (hi:i<x.f5.length),∃hq:f i<y.f5.length,EQ y.f5[f i] x.f5[i]=true:=
  ⟨fun i=>if hi:i<x.f5.length then(hat i hi).choose else 0,fun i hi=>by
   simp only[dif_pos hi]
   exact(hat i hi).choose_spec⟩
 have hinj: ∀i j (hi:i<x.f5.length) (hj:j<x.f5.length),i<j→f i≠f j:=by
  intro i j hi hj hij e
  obtain⟨h1,e1⟩:=hf i hi
  obtain⟨h2,e2⟩:=hf j hj
  have e3:y.f5[f j]=y.f5[f i]:=by congr 1;exact e.symm
  rw[e3] at e2
  have ci:=hx _ (List.getElem_mem hi)
  have cj:=hx _ (List.getElem_mem hj)
  have cf:=hy _ (List.getElem_mem h1)
  have h4:=eqV_trans 9 n n' n _ _ _ ci cf cj ((eqV_symm 9 n n' _ _ ci cf).trans e1) e2
  have h5:=hd i j (by omega) hij
  simp only[Nat.mul_one] at h5
  exact no_both h4 h5
 have hnd:((List.range x.f5.length).map f).Nodup:=by
  unfold List.Nodup
  rw[List.pairwise_map,List.pairwise_iff_getElem]
  intro i j hi hj hij
  simp only[List.getElem_range]
  exact hinj i j (by simpa using hi) (by simpa using hj) hij
 have:=pigeon y.f5.length _ hnd fun a ha=>by
  obtain⟨i,hi,rfl⟩:=List.mem_map.1 ha
  obtain⟨h1,_⟩:=hf i (by simpa using hi)
  exact h1
 simpa using this
structure Far (P:Nat→Prop) (w w':World):Prop where
 far: ∀k,¬P k→w'.heap[k]?=w.heap[k]?
 size:w'.heap.size=w.heap.size
 low: ∀w0:World,(∀k,P k→w0.heap.size≤k)→Below w0.heap.size w0 w→Below w0.heap.size w0 w'
theorem Far.refl (P:Nat→Prop) (w:World):Far P w w:=⟨fun _ _=>rfl,rfl,fun _ _ h=>h⟩
theorem Far.set {P:Nat→Prop} {w w':World} (h:Far P w w') {p:Addr} (hp:P p.block) (v:Value):Far P w (w'.setCell p v):=
 ⟨fun k hk=>(heap_far w' p v k (fun e=>hk (e▸hp))).trans (h.far k hk),by have:=h.size;simpa [World.setCell] using this,fun w0 h0 hb=>(h.low w0 h0 hb).setCell (h0 _ hp) v⟩
theorem Far.one {S:Nat} {w w':World} (h:Far (fun k=>k=S) w w') (o:Nat) (v:Value):Far (fun k=>k=S) w (w'.setCell ⟨S,o,none⟩ v):=Far.set (p:=⟨S,o,none⟩) h rfl v
theorem Far.of_drew {P:Nat→Prop} {w w':World} (h:Far P w.drew w'):Far P w w':=⟨h.far,h.size,fun w0 h0 hb=>h.low w0 h0 hb.drew⟩
theorem Far.mono {P Q:Nat→Prop} {w w':World} (h:Far P w w') (hq: ∀k,P k→Q k):Far Q w w':=⟨fun k hk=>h.far k (fun e=>hk (hq k e)),h.size,fun w0 h0 hb=>h.low w0 (fun k hk=>h0 k (hq k hk)) hb⟩
structure BitS (w:World) (Bt S M:Nat):Prop where
 blk:w.heap[Bt]?=some (.cells #[.bool false, .slice (some ⟨S,0,none⟩) (if M=0 then 0 else 1) 1] 196 (0,0))
 row:w.heap[S]?=some (.cells #[.int .u64 M] 265 (0,0))
 ne:Bt≠S
 lt:M<256
theorem bit_and: ∀(M:Fin 256) (t:Fin 8),M.1.testBit t.1=false→bits .and .u64 ((M.1:Int)/2^(t.1%64)) 1=0:=by decide+kernel
theorem bit_and0: ∀(M:Fin 256),M.1.testBit 0=false→bits .and .u64 (M.1:Int) 1=0:=by decide+kernel
theorem bit_or: ∀(M:Fin 256) (t:Fin 8),bits .or .u64 (M.1:Int) (IntKind.u64.wrap (2^(t.1%64)))=((M.1|||2^t.1:Nat):Int):=by decide+kernel
theorem norm1_c (S:Nat) (w:World) (h:w.cell? ⟨S,0,none⟩=some (.int .u64 0)):Calls Tryz.prog 166 #[.slice (some ⟨S,0,none⟩) 1 1] w fun e w'=>e= .returned (.slice (some ⟨S,0,none⟩) 0 1)∧w'=w:=by
 refine(norm_row S 0 1 [0] w (by decide) (by decide) (fun j hj=>by
  obtain rfl:j=0:=by simp at hj;omega
  exact h)).mono ?_
 rintro e w' ⟨rfl,i,hi,_,hz,rfl⟩
 refine⟨?_,rfl⟩
 have:i=0:=by
  cases i with
  |zero=>rfl
  |succ i=>
   simp at hi
   subst hi
   exact absurd rfl (hz (by decide) (by decide))
 rw[this]
set_option maxRecDepth 100000 in
theorem setBits_c (Bt S:Nat) (w:World) (hb:w.heap[Bt]?=some (.cells #[.bool false, .slice none 0 0] 196 (0,0))) (hs:w.heap[S]?=some (.cells #[.int .u64 0] 265 (0,0))) (hne:Bt≠S):
 Calls Tryz.prog 315 #[.pointer (some ⟨Bt,0,none⟩), .slice (some ⟨S,0,none⟩) 1 1] w fun e w'=>e= .returned (.pointer (some ⟨Bt,0,none⟩))∧BitS w' Bt S 0∧Far (fun k=>k=Bt) w w':=by
 have HN:=Lib.hid (norm1_c S w (blk_cell hs 0 _ rfl))
 have HR:Hid (BitS ((w.setCell ⟨Bt,1,none⟩ (.slice (some ⟨S,0,none⟩) 0 1)).setCell ⟨Bt,0,none⟩ (.bool false)) Bt S 0∧Far (fun k=>k=Bt) w ((w.setCell ⟨Bt,1,none⟩ (.slice (some ⟨S,0,none⟩) 0 1)).setCell ⟨Bt,0,none⟩ (.bool false))):=
  Lib.hid ⟨⟨blk_put (blk_put hb 1 _ rfl) 0 _ rfl,(heap_far _ ⟨Bt,0,none⟩ _ S (fun e=>hne e.symm)).trans ((heap_far _ ⟨Bt,1,none⟩ _ S (fun e=>hne e.symm)).trans hs),hne,by decide⟩,((Far.refl _ w).one 1 _).one 0 _⟩
 have b0:=blk_cell hb 0 _ rfl
 have b1:=blk_cell hb 1 _ rfl
 have f0:=blk_free hb 0
 have f1:=blk_free hb 1
 clear hb hs
 go_enter Tryz.func315,Tryz.ntmps315
 go_wp2_with (go_at_call 166;(with_reducible refine HN.out.mono ?_);rintro e w1 ⟨rfl,hw1⟩;have hw2:=hw1.symm;clear hw1;subst hw2)
 go_ret
 exact⟨rfl,HR.out⟩
set_option maxRecDepth 100000 in
theorem natBit_c (S M t l:Nat) (w:World) (hs:w.cell? ⟨S,0,none⟩=some (.int .u64 M)) (hM:M<256) (ht:t<8) (hl:l=if M=0 then 0 else 1) (hb:M.testBit t=false):
 Calls Tryz.prog 318 #[.slice (some ⟨S,0,none⟩) l 1, .int .u64 t] w fun e w'=>e= .returned (.int .u64 0)∧w'=w:=by
 have hq:(t:Int)/64=0:=by omega
 have hq2:Int.tdiv (t:Int) 64=0:=by rw[Int.tdiv_eq_ediv_of_nonneg (by omega)];exact hq
 by_cases h0:M=0
 ·subst h0
  rw[if_pos rfl] at hl
  subst hl
  go_enter Tryz.func318,Tryz.ntmps318
  go_wp2
  go_ret
  exact⟨rfl,rfl⟩
 ·rw[if_neg h0] at hl
  subst hl
  go_enter Tryz.func318,Tryz.ntmps318
  go_wp2
  go_ret
  exact⟨by rw[←bit_and ⟨M,hM⟩ ⟨t,ht⟩ hb];rfl,rfl⟩
set_option maxRecDepth 100000 in
theorem bit_c (Bt S M t:Nat) (w:World) (h:BitS w Bt S M) (ht:t<8) (hb:M.testBit t=false):
 Calls Tryz.prog 316 #[.pointer (some ⟨Bt,0,none⟩), .int .i64 t] w fun e w'=>e= .returned (.int .u64 0)∧w'=w:=by
 have s0:=blk_cell h.row 0 _ rfl
 have b0:=blk_cell h.blk 0 _ rfl
 have b1:=blk_cell h.blk 1 _ rfl
 have hM:=h.lt
 have HN:=Lib.hid (natBit_c S M t _ w s0 hM ht rfl hb)
 clear h
 by_cases h0:M=0
 ·rw[if_pos h0] at b1 HN
  by_cases ht0:t=0
  ·subst ht0
   go_enter Tryz.func316,Tryz.ntmps316
   go_wp2
   go_ret
   exact⟨rfl,rfl⟩
  ·have d1:((t:Int)==0)=false:=by simp;omega
   go_enter Tryz.func316,Tryz.ntmps316
   go_wp2_with (go_at_call 318;(with_reducible refine HN.out.mono ?_);rintro e w1 ⟨rfl,hw1⟩;have hw2:=hw1.symm;clear hw1;subst hw2)
   go_ret
   exact⟨rfl,rfl⟩
 ·rw[if_neg h0] at b1 HN
  by_cases ht0:t=0
  ·subst ht0
   have hz:=bit_and0 ⟨M,hM⟩ hb
   go_enter Tryz.func316,Tryz.ntmps316
   go_wp2
   go_ret
   exact⟨by first|rfl|(rw[←hz];rfl),rfl⟩
  ·have d1:((t:Int)==0)=false:=by simp;omega
   go_enter Tryz.func316,Tryz.ntmps316
   go_wp2_with (go_at_call 318;(with_reducible refine HN.out.mono ?_);rintro e w1 ⟨rfl,hw1⟩;have hw2:=hw1.symm;clear hw1;subst hw2)
   go_ret
   exact⟨rfl,rfl⟩
theorem makeOld_c (S l:Nat) (w:World) (hl:l≤1):Calls Tryz.prog 161 #[.slice (some ⟨S,0,none⟩) l 1, .int .i64 1] w fun e w'=>e= .returned (.slice (some ⟨S,0,none⟩) 1 1)∧w'=w:=by
 go_enter Tryz.func161,Tryz.ntmps161
 go_wp2
 go_ret
 exact⟨rfl,rfl⟩
theorem clearOne (w:World) (S:Nat) (x:Int) (hs:w.heap[S]?=some (.cells #[.int .u64 x] 265 (0,0))) (ty:TypeId):(Builtin.clear_ #[194] ty #[.slice (some ⟨S,0,none⟩) 1 1]).run Tryz.prog w= .ok (.tuple #[]) (w.setCell ⟨S,0,none⟩ (.int .u64 0)):=
 Lib.run_clear_slice w _ 265 ty (.int .u64 0) Tryz.underlying194 zeroWord rfl rfl S 0 1 1 (by decide) (fun j hj=>by
  obtain rfl:j=0:=by omega
  rw[show w.cell? ⟨S,0+0,none⟩=some (.int .u64 x) from blk_cell hs 0 _ rfl];rfl) (fun j hj=>blk_free hs _)
theorem wordOne:(Tryz.prog.info? 265).map (·.size)=some 1:=by kernel_rfl
theorem copyOne (w:World) (S:Nat) (x:Int) (hs:w.heap[S]?=some (.cells #[.int .u64 x] 265 (0,0))) (ty:TypeId):(Builtin.copy_ #[194,194] ty #[.slice (some ⟨S,0,none⟩) 1 1, .slice (some ⟨S,0,none⟩) 1 1]).run Tryz.prog w= .ok (.int .i64 1) (w.setCell ⟨S,0,none⟩ (.int .u64 x)):=by
 have:=run_copy_cells (P:=Tryz.prog) w 194 194 ty 265 S 0 1 1 ⟨S,0,none⟩ 1 1 [.int .u64 x] Tryz.underlying194 wordOne rfl (fun j v hv=>?_) (fun j hj=>?_) (fun j hj=>blk_free hs _) (fun v hv=>?_)
 ·exact this
 ·obtain⟨hj,rfl⟩:=List.getElem?_eq_some_iff.1 hv
  obtain rfl:j=0:=by simp at hj;omega
  rw[addr_add]
  exact blk_cell hs 0 _ rfl
 ·obtain rfl:j=0:=by simp at hj;omega
  rw[show w.cell? ⟨S,0+0,none⟩=some (.int .u64 x) from blk_cell hs 0 _ rfl];rfl
 ·obtain rfl:v= .int .u64 x:=by simpa using hv
  rfl
theorem copyZero (w:World) (S:Nat) (ty:TypeId):(Builtin.copy_ #[194,194] ty #[.slice (some ⟨S,0,none⟩) 1 1, .slice (some ⟨S,0,none⟩) 0 1]).run Tryz.prog w= .ok (.int .i64 0) w:=
 run_copy_none (P:=Tryz.prog) w 194 194 ty 265 (some ⟨S,0,none⟩) (some ⟨S,0,none⟩) 1 1 0 1 Tryz.underlying194 wordOne rfl
set_option maxRecDepth 100000 in
theorem natSetBit_c (S M t l:Nat) (w:World) (hs:w.heap[S]?=some (.cells #[.int .u64 M] 265 (0,0))) (hM:M<256) (ht:t<8) (hl:l=if M=0 then 0 else 1):
 Calls Tryz.prog 319 #[.slice (some ⟨S,0,none⟩) l 1, .slice (some ⟨S,0,none⟩) l 1, .int .u64 t, .int .u64 1] w fun e w'=>e= .returned (.slice (some ⟨S,0,none⟩) 1 1)∧w'.heap[S]?=some (.cells #[.int .u64 (M|||2^t:Nat)] 265 (0,0))∧Far (fun k=>k=S) w w':=by
 have HM1:=Lib.hid fun W=>makeOld_c S l W (by rw[hl];split<;>decide)
 have hq:(t:Int)/64=0:=by omega
 have hq2:Int.tdiv (t:Int) 64=0:=by rw[Int.tdiv_eq_ediv_of_nonneg (by omega)];exact hq
 by_cases h0:M=0
 ·subst h0
  rw[if_pos rfl] at hl
  subst hl
  have h1:(w.setCell ⟨S,0,none⟩ (.int .u64 0)).heap[S]?=some (.cells #[.int .u64 0] 265 (0,0)):=blk_put hs 0 _ rfl
  obtain⟨W1,hW1⟩: ∃W,W=w.setCell ⟨S,0,none⟩ (.int .u64 0):=⟨_,rfl⟩
  have hcl:=clearOne w S _ hs
  have hcp:=copyZero W1 S
  rw[←hW1] at h1 hcl
  have c1:=blk_cell h1 0 _ rfl
  have f1:=blk_free h1 0
  have HF:Hid (Far (fun k=>k=S) w W1):=by rw[hW1];exact Lib.hid ((Far.refl _ w).one 0 _)
  have HH:=Lib.hid h1
  clear hW1 hs h1
  go_enter Tryz.func319,Tryz.ntmps319
  go_wp2_with (go_at_call 161;(with_reducible refine(HM1.out _).mono ?_);rintro e w1 ⟨rfl,hw1⟩;have hw2:=hw1.symm;clear hw1;subst hw2)
  go_ret
  rw[show bits .or .u64 0 (IntKind.u64.wrap (2^(t%64)))=((0|||2^t:Nat):Int) from bit_or ⟨0,by decide⟩ ⟨t,ht⟩]
  exact⟨rfl,blk_put HH.out 0 _ rfl,HF.out.one 0 _⟩
 ·rw[if_neg h0] at hl
  subst hl
  have h1:(w.setCell ⟨S,0,none⟩ (.int .u64 M)).heap[S]?=some (.cells #[.int .u64 M] 265 (0,0)):=blk_put hs 0 _ rfl
  obtain⟨W1,hW1⟩: ∃W,W=w.setCell ⟨S,0,none⟩ (.int .u64 M):=⟨_,rfl⟩
  have hcp:=copyOne w S _ hs
  rw[←hW1] at h1 hcp
  have c1:=blk_cell h1 0 _ rfl
  have f1:=blk_free h1 0
  have HF:Hid (Far (fun k=>k=S) w W1):=by rw[hW1];exact Lib.hid ((Far.refl _ w).one 0 _)
  have HH:=Lib.hid h1
  clear hW1 hs h1
  go_enter Tryz.func319,Tryz.ntmps319
  go_wp2_with (go_at_call 161;(with_reducible refine(HM1.out _).mono ?_);rintro e w1 ⟨rfl,hw1⟩;have hw2:=hw1.symm;clear hw1;subst hw2)
  go_ret
  rw[show bits .or .u64 (M:Int) (IntKind.u64.wrap (2^(t%64)))=((M|||2^t:Nat):Int) from bit_or ⟨M,hM⟩ ⟨t,ht⟩]
  exact⟨rfl,blk_put HH.out 0 _ rfl,HF.out.one 0 _⟩
theorem or_ne (M t:Nat): ¬(M|||2^t)=0:=fun e=>by
 have:(M|||2^t).testBit t=true:=by simp[Nat.testBit_or,Nat.testBit_two_pow]
 rw[e] at this
 simp at this
set_option maxRecDepth 100000 in
theorem setBit_c (Bt S M t:Nat) (w:World) (h:BitS w Bt S M) (ht:t<8):
 Calls Tryz.prog 317 #[.pointer (some ⟨Bt,0,none⟩), .pointer (some ⟨Bt,0,none⟩), .int .i64 t, .int .u64 1] w fun e w'=>e= .returned (.pointer (some ⟨Bt,0,none⟩))∧BitS w' Bt S (M|||2^t)∧Far (fun k=>k=Bt∨k=S) w w':=by
 have b0:=blk_cell h.blk 0 _ rfl
 have b1:=blk_cell h.blk 1 _ rfl
 have f0:=blk_free h.blk 0
 have f1:=blk_free h.blk 1
 have HB:=Lib.hid h
 have HN:=Lib.hid (natSetBit_c S M t _ w.drew (show w.drew.heap[S]?=_ from h.row) h.lt ht rfl)
 obtain⟨l,hl⟩: ∃l,(if M=0 then 0 else 1)=l:=⟨_,rfl⟩
 rw[hl] at b1 HN
 have hwt:IntKind.u64.wrap (t:Int)=(t:Int):=(show∀t:Fin 8,IntKind.u64.wrap (t.1:Int)=(t.1:Int) by decide) ⟨t,ht⟩
 clear h hl
 go_enter Tryz.func317,Tryz.ntmps317
 go_wp2_with fail
 go_region_with (go_at_call 319;(with_reducible refine HN.out.mono ?_);rintro e w1 ⟨rfl,hs1,hf1⟩;have HS1:=Lib.hid hs1;have HF1:=Lib.hid hf1;have hbb:w1.heap[Bt]?=w.heap[Bt]?:=hf1.far Bt HB.out.ne;have e1:=(cell_of_block hbb 1).trans b1;have g1:=(World.frozen?_of_block (w:=w) (a:=⟨Bt,1,none⟩) hbb).trans f1;have g0:=(World.frozen?_of_block (w:=w) (a:=⟨Bt,0,none⟩) hbb).trans f0;have e0:=(cell_of_block hbb 0).trans b0;clear hs1 hf1 hbb)
 all_goals
  go_wp2_with fail
  go_ret
  have hb1:w1.heap[Bt]?=some (.cells #[.bool false, .slice (some ⟨S,0,none⟩) (if M=0 then 0 else 1) 1] 196 (0,0)):=(HF1.out.far Bt HB.out.ne).trans HB.out.blk
  refine⟨rfl,⟨?_,?_,HB.out.ne,or_lt ⟨M,HB.out.lt⟩ ⟨t,ht⟩⟩,?_⟩
  ·rw[if_neg (or_ne M t)]
   exact blk_put (blk_put hb1 1 _ rfl) 0 _ rfl
  ·exact(heap_far _ ⟨Bt,0,none⟩ _ S (fun e=>HB.out.ne e.symm)).trans ((heap_far _ ⟨Bt,1,none⟩ _ S (fun e=>HB.out.ne e.symm)).trans HS1.out)
  ·have h2:Far (fun k=>k=Bt∨k=S) w w1:=HF1.out.of_drew.mono fun k hk=>Or.inr hk
   exact Far.set (p:=⟨Bt,0,none⟩) (Far.set (p:=⟨Bt,1,none⟩) h2 (Or.inl rfl) _) (Or.inl rfl) _
set_option maxRecDepth 100000 in
theorem iterate_c (g:Nat) (T:TypeId) (tab:Bool) (es:List HEnt) (w:World) (h:HTab w g T tab es 0):Calls Tryz.prog 112 #[.pointer (some ⟨g,0,none⟩)] w fun e w'=>e= .returned (.pointer (some ⟨w.heap.size,0,none⟩))∧w'=(w.setCell ⟨g,43,none⟩ (.int .u32 1)).alloc (.cells #[.pointer (some ⟨g,0,none⟩),entP g es.length 0] 280):=by
 have c43:=h.c43
 have c46:=h.c46
 have f43:=h.free 43
 obtain⟨W1,hW1⟩: ∃W,W=w.setCell ⟨g,43,none⟩ (.int .u32 1):=⟨_,rfl⟩
 have h1:HTab W1 g T tab es 1:=by rw[hW1];exact h.setIt 1
 have c44:=h1.head
 have hz:Hid (W1.heap.size=w.heap.size):=Lib.hid (by rw[hW1];simp[World.setCell])
 obtain⟨ne,hne⟩: ∃v,entP g es.length 0=v:=⟨_,rfl⟩
 have hpt: ∃o,ne= .pointer o:=by
  rw[←hne]
  unfold entP
  split<;>exact⟨_,rfl⟩
 obtain⟨no,rfl⟩:=hpt
 rw[hne] at c44⊢
 rw[←hW1]
 clear h h1 hne
 go_enter Tryz.func112,Tryz.ntmps112
 go_upto_region 3 with fail
 rw[←hW1]
 clear hW1
 go_wp2
 go_ret
 exact⟨by rw[hz.out];rfl,rfl⟩
set_option maxRecDepth 100000 in
theorem setIterate_c (g:Nat) (tab:Bool) (es:List HEnt) (w:World) (h:HTab w g 185 tab es 0):Calls Tryz.prog 75 #[.pointer (some ⟨g,0,none⟩)] w fun e w'=>e= .returned (.iface 218 (.pointer (some ⟨w.heap.size,0,none⟩)))∧w'=(w.setCell ⟨g,43,none⟩ (.int .u32 1)).alloc (.cells #[.pointer (some ⟨g,0,none⟩),entP g es.length 0] 280):=by
 have HI:=Lib.hid (iterate_c g _ tab es w h)
 clear h
 go_enter Tryz.func75,Tryz.ntmps75
 go_wp2_with (go_at_call 112;(with_reducible refine HI.out.mono ?_);rintro e w1 ⟨rfl,hw1⟩;have HW:=Lib.hid hw1;clear hw1)
 go_ret
 exact⟨rfl,HW.out⟩
set_option maxRecDepth 100000 in
theorem done_deferred (K g n j:Nat) (T:TypeId) (tab:Bool) (es:List HEnt) (u:FrameMode) (w:World) (hI:ItB w K g n j) (h:HTab w g T tab es 1):CallsD Tryz.prog 387 #[.pointer (some ⟨K,0,none⟩)] u w fun e u' w'=>u'=u∧(e= .returned (.tuple #[])∧w'=w.setCell ⟨g,43,none⟩ (.int .u32 0)):=by
 have c43:=h.c43
 have c46:=h.c46
 have f43:=h.free 43
 have k0:=blk_cell hI 0 _ rfl
 clear h hI
 go_enter_d Tryz.func387,Tryz.ntmps387
 go_wp2
 go_end0
 exact⟨rfl,rfl⟩
theorem setI_it {B n g g':Nat} {w:World} {es es':List HEnt} {x:VT} {T:TypeId} {tab:Bool} (h:SetI B n w g es x 0) (ht:HTab w g' T tab es' 0) (hc: ∀k∈x.f5,HC n k) (z:Int): ∃it,SetI B n (w.setCell ⟨g',43,none⟩ (.int .u32 z)) g es x it:=by
 obtain⟨it,h1⟩:=HTab.someIt (g:=g') h.1 z
 exact⟨it,h1,h.2.1,fun i hi h1=>⟨PV.it ht _ (hc _ (List.getElem_mem h1)) (h.2.2 i hi h1).1,(h.2.2 i hi h1).2⟩⟩
def OverR (w0:World) (K g n:Nat) (b:Bool) (e:Ending) (w':World):Prop:=e= .returned (.tuple #[.bool b, .nilIface])∧ ∃j,Below w0.heap.size w0 w'∧ItB w' K g n j
theorem invDone (K:Nat) (w:World):(invoke (.fn (.method "Done") #[]) #[.iface 218 (.pointer (some ⟨K,0,none⟩))]).run Tryz.prog w= .ok (.enter 387 #[.pointer (some ⟨K,0,none⟩)]) w:=by kernel_rfl
def OrdNo (op:Int) (n m:Nat):Prop:=(op=35∧(n:Int)<m)∨(op=34∧(n:Int)≤m)∨(op=36∧(m:Int)<n)∨(op=33∧(m:Int)≤n)
set_option maxRecDepth 100000 in
theorem setOrdNo_c (op d:Int) (g1 g2:Nat) (t1 t2:Bool) (es1 es2:List HEnt) (w:World) (ho:OrdNo op es1.length es2.length) (h1:HTab w g1 185 t1 es1 0) (h2:HTab w g2 185 t2 es2 0) (hk1:es1.length≤8) (hk2:es2.length≤8):
 Calls Tryz.prog 304 #[.pointer (some ⟨g1,0,none⟩), .int .i8 op, .iface 102 (.pointer (some ⟨g2,0,none⟩)), .int .i64 d] w fun e w'=>e= .returned (.tuple #[.bool false, .nilIface])∧Below w.heap.size w w':=by
 have hta:=assertSet1
 have HL1:=Lib.hid (fun W (hW:W=w)=>setLen_c g1 t1 es1 0 w h1 (by omega))
 have HL2:=Lib.hid (fun W (hW:W=w)=>setLen_c g2 t2 es2 0 w h2 (by omega))
 clear h1 h2
 rcases ho with⟨rfl,hl⟩|⟨rfl,hl⟩|⟨rfl,hl⟩|⟨rfl,hl⟩
 all_goals
  go_enter Tryz.func304,Tryz.ntmps304
  go_wp2_with (go_at_call 96;(first|(with_reducible refine(HL1.out _ rfl).mono ?_)|(with_reducible refine(HL2.out _ rfl).mono ?_));rintro e w1 ⟨rfl,hw1⟩;have hw2:=hw1.symm;clear hw1;subst hw2)
  go_ret2
  exact⟨rfl,Below.refl _ _⟩
def itW (w:World) (g n:Nat):World:=(w.setCell ⟨g,43,none⟩ (.int .u32 1)).alloc (.cells #[.pointer (some ⟨g,0,none⟩),entP g n 0] 280)
theorem over_done {w w3:World} {g:Nat} {T:TypeId} {tab:Bool} {es:List HEnt} (h:HTab w g T tab es 0) (hm:Below (w.setCell ⟨g,43,none⟩ (.int .u32 1)).heap.size (w.setCell ⟨g,43,none⟩ (.int .u32 1)) w3):HTab w3 g T tab es 1∧Below w.heap.size w (w3.setCell ⟨g,43,none⟩ (.int .u32 0)):=by
 have hl:=lt_blk h
 refine⟨(hm.block g (by simpa [World.setCell] using hl)).trans (h.setIt 1),Below.itBack h hl ?_⟩
 have:=hm
 rw[show(w.setCell ⟨g,43,none⟩ (.int .u32 1)).heap.size=w.heap.size by simp[World.setCell]] at this
 exact this
set_option maxRecDepth 100000 in
set_option maxHeartbeats 1000000 in
theorem setOver_c (op d:Int) (b:Bool) (g1 g2:Nat) (t1 t2:Bool) (es1 es2:List HEnt) (w:World) (ho:(op=35∨op=34)∨(op=36∨op=33)) (hno: ¬OrdNo op es1.length es2.length) (h1:HTab w g1 185 t1 es1 0) (h2:HTab w g2 185 t2 es2 0) (hk1:es1.length≤8) (hk2:es2.length≤8)
 (HP:op=35∨op=34→Calls Tryz.prog 311 #[.pointer (some ⟨g1,0,none⟩), .iface 218 (.pointer (some ⟨w.heap.size,0,none⟩))] (itW w g2 es2.length) (OverR (w.setCell ⟨g2,43,none⟩ (.int .u32 1)) w.heap.size g2 es2.length b))
 (HS:op=36∨op=33→Calls Tryz.prog 312 #[.pointer (some ⟨g1,0,none⟩), .iface 218 (.pointer (some ⟨w.heap.size,0,none⟩))] (itW w g2 es2.length) (OverR (w.setCell ⟨g2,43,none⟩ (.int .u32 1)) w.heap.size g2 es2.length b)):
 Calls Tryz.prog 304 #[.pointer (some ⟨g1,0,none⟩), .int .i8 op, .iface 102 (.pointer (some ⟨g2,0,none⟩)), .int .i64 d] w fun e w'=>e= .returned (.tuple #[.bool b, .nilIface])∧Below w.heap.size w w':=by
 have hta:=assertSet1
 have HL1:=Lib.hid (fun W (hW:W=w)=>setLen_c g1 t1 es1 0 w h1 (by omega))
 have HL2:=Lib.hid (fun W (hW:W=w)=>setLen_c g2 t2 es2 0 w h2 (by omega))
 have HI:Hid (Calls Tryz.prog 75 #[.pointer (some ⟨g2,0,none⟩)] w fun e w'=>e= .returned (.iface 218 (.pointer (some ⟨w.heap.size,0,none⟩)))∧w'=itW w g2 es2.length):=Lib.hid (setIterate_c g2 t2 es2 w h2)
 have H2:=Lib.hid h2
 have hno2:(op=35→ ¬(es1.length:Int)<es2.length)∧(op=34→ ¬(es1.length:Int)≤es2.length)∧(op=36→ ¬(es2.length:Int)<es1.length)∧(op=33→ ¬(es2.length:Int)≤es1.length):=
  ⟨fun e h=>hno (Or.inl ⟨e,h⟩),fun e h=>hno (Or.inr (Or.inl ⟨e,h⟩)),fun e h=>hno (Or.inr (Or.inr (Or.inl ⟨e,h⟩))),fun e h=>hno (Or.inr (Or.inr (Or.inr ⟨e,h⟩)))⟩
 clear h1 h2 hno
 rcases ho with ho|ho
 ·have HQ:=Lib.hid (HP ho)
  clear HP HS
  rcases ho with rfl|rfl
  all_goals
   have hlt:=by first|exact hno2.1 rfl|exact hno2.2.1 rfl|exact hno2.2.2.1 rfl|exact hno2.2.2.2 rfl
   clear hno2
   go_enter_defers Tryz.func304,Tryz.ntmps304
   go_wp2_with (first
    |(go_at_call 96;(first|(with_reducible refine(HL1.out _ rfl).mono ?_)|(with_reducible refine(HL2.out _ rfl).mono ?_));rintro e w1 ⟨rfl,hw1⟩;have hw2:=hw1.symm;clear hw1;subst hw2)
    |(go_at_call 75;(with_reducible refine HI.out.mono ?_);rintro e w2 ⟨rfl,rfl⟩)
    |(go_at_call 311;(with_reducible refine HQ.out.mono ?_);rintro e w3 ⟨rfl,j,hm,hi⟩;have HM:=Lib.hid hm;have HIt:=Lib.hid hi;clear hm hi))
   have HD:=Lib.hid (over_done H2.out HM.out)
   refine leaves_cons (f:=387) (args:=#[.pointer (some ⟨w.heap.size,0,none⟩)]) (by simp) (invDone _ _) ?_
   refine(done_deferred w.heap.size g2 _ _ _ _ es2 .returning w3 HIt.out HD.out.1).mono ?_
   rintro e u' w'' ⟨rfl,rfl,rfl⟩
   exact⟨_,results_tmp2 rfl _ _ _,rfl,HD.out.2⟩
 ·have HQ:=Lib.hid (HS ho)
  clear HP HS
  rcases ho with rfl|rfl
  all_goals
   have hlt:=by first|exact hno2.1 rfl|exact hno2.2.1 rfl|exact hno2.2.2.1 rfl|exact hno2.2.2.2 rfl
   clear hno2
   go_enter_defers Tryz.func304,Tryz.ntmps304
   go_wp2_with (first
    |(go_at_call 96;(first|(with_reducible refine(HL1.out _ rfl).mono ?_)|(with_reducible refine(HL2.out _ rfl).mono ?_));rintro e w1 ⟨rfl,hw1⟩;have hw2:=hw1.symm;clear hw1;subst hw2)
    |(go_at_call 75;(with_reducible refine HI.out.mono ?_);rintro e w2 ⟨rfl,rfl⟩)
    |(go_at_call 312;(with_reducible refine HQ.out.mono ?_);rintro e w3 ⟨rfl,j,hm,hi⟩;have HM:=Lib.hid hm;have HIt:=Lib.hid hi;clear hm hi))
   have HD:=Lib.hid (over_done H2.out HM.out)
   refine leaves_cons (f:=387) (args:=#[.pointer (some ⟨w.heap.size,0,none⟩)]) (by simp) (invDone _ _) ?_
   refine(done_deferred w.heap.size g2 _ _ _ _ es2 .returning w3 HIt.out HD.out.1).mono ?_
   rintro e u' w'' ⟨rfl,rfl,rfl⟩
   exact⟨_,results_tmp2 rfl _ _ _,rfl,HD.out.2⟩
end Go.Proofs.YtkplnbjgkhmbcaaGreatDoor
