/- NumHash NumTree HashA HashQ TreeVal HashF TreeDict TreeClean ValOpenN HashG -/
import Derived.Test.YtkplnbjgkhmbcaaGreatDoorU13
import Derived.Test.YtkplnbjgkhmbcaaGreatDoorU12
import Derived.Test.YtkplnbjgkhmbcaaGreatDoorU04
import Derived.Test.YtkplnbjgkhmbcaaGreatDoorU06
import Derived.Test.YtkplnbjgkhmbcaaGreatDoorU10
namespace Go.Proofs.YtkplnbjgkhmbcaaGreatDoor
open Go.RowKit Go.Shelf Go.Proofs.YtkplnbjgkhmbcaaGreatDoorW.PrintWords Go.Proofs.YtkplnbjgkhmbcaaGreatDoorW.PrintLast Go.Proofs.YtkplnbjgkhmbcaaGreatDoorW.PrintMore Go.Proofs.YtkplnbjgkhmbcaaGreatDoor.PFnCompare Go.Proofs.YtkplnbjgkhmbcaaGreatDoor.PCmp Go.Proofs.YtkplnbjgkhmbcaaGreatDoor.PbytesOf
set_option linter.unusedVariables false
set_option linter.unusedSimpArgs false
def KE:Nat:=1074
theorem KE_eq:KE=1074:=rfl
def KN:Nat:=2^KE
theorem two_npos (n:Nat):0<2^n:=Nat.pow_pos (by decide)
theorem KN_pos:0<KN:=two_npos KE
theorem KI_pos:(0:Int)<(KN:Int):=by have:=KN_pos;omega
theorem KN_split (u:Nat) (h:u≤1074):KN=2^u*2^(1074-u):=by
 have:=KE_eq
 unfold KN
 rw[←Nat.pow_add]
 congr 1
 omega
theorem KI_split (u:Nat) (h:u≤1074):(KN:Int)=2^u*2^(1074-u):=by
 rw[KN_split u h,Int.natCast_mul,Int.natCast_pow,Int.natCast_pow]
 rfl
inductive NK where
 |num (v:Int)|inf (s:Bool)|nan
def fworth (b:Nat):NK:=
 match fdat b with
 | .number s m p=> .num (smag s m*2^(p+1074).toNat)
 | .infinity s=> .inf s
 | .nan _ _=> .nan
inductive SK where
 |none|bool (b:Bool)|num (k:NK)|str (s:ByteArray)|bytes (s:ByteArray)
def skey:Sca→SK
 | .none=> .none
 | .bool b=> .bool b
 | .int x=> .num (.num (x*(KN:Int)))
 | .float b=> .num (fworth b)
 | .str s=> .str s
 | .bytes s=> .bytes s
theorem sgn_zero (x:Int):(sgn x==0)=true↔x=0:=by
 unfold sgn
 constructor
 ·intro h
  split at h
  ·simp at h
  ·split at h
   ·assumption
   ·simp at h
 ·rintro rfl
  rfl
theorem neg_beq (x:Int):((-x)==0)=(x==0):=by
 rw[Bool.eq_iff_iff];simp
theorem scale_eq {a b c:Int} (h:0<c):a=b↔a*c=b*c:=⟨fun e=>by rw[e],fun e=>Int.eq_of_mul_eq_mul_right (by omega) e⟩
theorem icmp_key (x:Int) (b:Nat) (hb:b<18446744073709551616):(icmpF x b==0)=true↔NK.num (x*(KN:Int))=fworth b:=by
 rcases fcase b hb with⟨s,m,p,h,hs,hm,hp,hp2,h0⟩|⟨s,h,hs⟩|⟨s,f,h⟩
 ·unfold icmpF fworth
  rw[h]
  simp only[NK.num.injEq]
  rw[sgn_zero]
  have e2:(p+1074).toNat=p.toNat+(1074-(-p).toNat):=by omega
  have hpos:(0:Int)<2^(1074-(-p).toNat):=Int.pow_pos (by decide)
  rw[e2,Int.pow_add,KI_split (-p).toNat (by omega),←Int.mul_assoc,←Int.mul_assoc,←scale_eq hpos]
  omega
 ·unfold icmpF fworth
  rw[h]
  cases s<;>simp
 ·unfold icmpF fworth
  rw[h]
  simp
theorem cmp_eq_iff (x y:Int):compare x y= .eq↔x=y:=by
 simp only[compare,compareOfLessAndEq]
 split
 ·simp;omega
 ·split
  ·simp;assumption
  ·simp;assumption
theorem fcmp_key (a b:Nat) (ha:a<18446744073709551616) (hb:b<18446744073709551616):(fcmpF a b==0)=true↔fworth a=fworth b:=by
 unfold fcmpF
 rw[ord_dat]
 rcases fcase a ha with⟨s,m,p,h,hs,hm,hp,hp2,h0⟩|⟨s,h,hs⟩|⟨s,f,h⟩<;>rcases fcase b hb with⟨t,n,q,k,ks,km,kp,kp2,k0⟩|⟨t,k,ks⟩|⟨t,g,k⟩<;>unfold fworth<;>rw[h,k]
 ·show(fcmpO (some (compare (Ieee.signed s m (p-min p q).toNat) (Ieee.signed t n (q-min p q).toNat))) false false==0)=true↔_
  simp only[NK.num.injEq]
  rw[signed_eq,signed_eq]
  have hpos:(0:Int)<2^(min p q+1074).toNat:=Int.pow_pos (by decide)
  have e1:(p+1074).toNat=(p-min p q).toNat+(min p q+1074).toNat:=by omega
  have e2:(q+1074).toNat=(q-min p q).toNat+(min p q+1074).toNat:=by omega
  rw[e1,e2,Int.pow_add,Int.pow_add,←Int.mul_assoc,←Int.mul_assoc,←scale_eq hpos,←cmp_eq_iff]
  generalize compare (smag s m*2^(p-min p q).toNat) (smag t n*2^(q-min p q).toNat)=o
  cases o<;>simp[fcmpO]
 ·show(fcmpO (some (if t then Ordering.gt else .lt)) false false==0)=true↔_
  cases t<;>simp[fcmpO]
 ·show(fcmpO none false true==0)=true↔_
  simp[fcmpO]
 ·show(fcmpO (some (if s then Ordering.lt else .gt)) false false==0)=true↔_
  cases s<;>simp[fcmpO]
 ·show(fcmpO (some (compare t.toNat s.toNat)) false false==0)=true↔_
  cases s<;>cases t<;>simp[fcmpO]<;>decide
 ·show(fcmpO none false true==0)=true↔_
  simp[fcmpO]
 ·show(fcmpO none true false==0)=true↔_
  simp[fcmpO]
 ·show(fcmpO none true false==0)=true↔_
  simp[fcmpO]
 ·show(fcmpO none true true==0)=true↔_
  simp[fcmpO]
theorem ba_beq (a b:ByteArray):(a==b)=true↔a=b:=by
 have h1:(a==b)=(a.data==b.data):=rfl
 rw[h1,beq_iff_eq]
 exact⟨fun h=>ByteArray.ext h,fun h=>by rw[h]⟩
theorem eqS_key (s t:Sca) (hs:s.fit) (ht:t.fit):eqS s t=true↔skey s=skey t:=by
 cases s<;>cases t
 case int.int x y=>
  show(sgn (x-y)==0)=true↔SK.num (.num (x*(KN:Int)))= .num (.num (y*(KN:Int)))
  rw[sgn_zero,SK.num.injEq,NK.num.injEq,←scale_eq KI_pos]
  omega
 case int.float x b=>
  show(icmpF x b==0)=true↔SK.num (.num (x*(KN:Int)))= .num (fworth b)
  rw[icmp_key x b ht,SK.num.injEq]
 case float.int b x=>
  show((-icmpF x b)==0)=true↔SK.num (fworth b)= .num (.num (x*(KN:Int)))
  rw[neg_beq,icmp_key x b hs,SK.num.injEq]
  exact eq_comm
 case float.float a b=>
  show(fcmpF a b==0)=true↔SK.num (fworth a)= .num (fworth b)
  rw[fcmp_key a b hs ht,SK.num.injEq]
 case bytes.bytes a b=>
  rw[eqS_bytes,ba_beq]
  simp[skey]
 case str.str a b=>
  show(a==b)=true↔_
  rw[ba_beq]
  simp[skey]
 all_goals simp[eqS,skey]
def truncF (s:Bool) (m:Nat) (p:Int):Int:=smag s (m*2^p.toNat/2^(-p).toNat)
theorem trunc_worth (s:Bool) (m:Nat) (p:Int) (hp: -1074≤p):truncF s m p=(smag s m*2^(p+1074).toNat).tdiv (KN:Int):=by
 have e2:(p+1074).toNat=p.toNat+(1074-(-p).toNat):=by omega
 have hpos:0<2^(1074-(-p).toNat):=Nat.pow_pos (by decide)
 have hn:m*2^(p+1074).toNat/KN=m*2^p.toNat/2^(-p).toNat:=by
  rw[e2,Nat.pow_add,←Nat.mul_assoc,KN_split (-p).toNat (by omega)]
  exact Nat.mul_div_mul_right _ _ hpos
 have hc:(m*2^(p+1074).toNat:Int).tdiv (KN:Int)=((m*2^p.toNat/2^(-p).toNat:Nat):Int):=by
  rw[←hn,Int.ofNat_tdiv,Int.natCast_mul,Int.natCast_pow]
  rfl
 unfold truncF smag
 cases s
 ·rw[if_neg (by simp),if_neg (by simp),←hc]
 ·rw[if_pos rfl,if_pos rfl,Int.neg_mul,Int.neg_tdiv,←hc]
def hashLo (lo:Int):Int:=IntKind.u32.wrap (12582917*IntKind.u32.wrap (IntKind.u64.wrap (lo+3)))
def loZ (x:Int):Int:=if sml x then IntKind.u64.wrap x else(x.natAbs:Int)%18446744073709551616
def hashZ (x:Int):Int:=hashLo (loZ x)
theorem wrap32 (x:Int):IntKind.u32.wrap x=x%4294967296:=by simp[IntKind.wrap,IntKind.bits,IntKind.signed]
def fnvStep (h:Int) (c:UInt8):Int:=IntKind.u32.wrap (bits .xor .u32 h (c.toNat:Int)*16777619)
def fnv (s:ByteArray):Int:=s.data.toList.foldl fnvStep 2166136261
def hashN:NK→Int
 | .num v=>hashZ (v.tdiv (KN:Int))
 | .inf _=>1618033
 | .nan=>1618033
def hashK:SK→Int
 | .none=>0
 | .bool b=>if b then 1 else 0
 | .num k=>hashN k
 | .str s=>fnv s
 | .bytes s=>fnv s
def hashF (b:Nat):Int:=
 match fdat b with
 | .number s m p=>hashZ (truncF s m p)
 |_=>1618033
def hashS:Sca→Int
 | .none=>0
 | .bool b=>if b then 1 else 0
 | .int x=>hashZ x
 | .float b=>hashF b
 | .str s=>fnv s
 | .bytes s=>fnv s
theorem hashS_key (s:Sca) (hs:s.fit):hashS s=hashK (skey s):=by
 cases s
 case int x=>
  show hashZ x=hashZ ((x*(KN:Int)).tdiv (KN:Int))
  rw[Int.mul_tdiv_cancel _ (Int.ne_of_gt KI_pos)]
 case float b=>
  show hashF b=hashN (fworth b)
  unfold hashF hashN fworth
  rcases fcase b hs with⟨s,m,p,h,hs,hm,hp,hp2,h0⟩|⟨s,h,hs⟩|⟨s,f,h⟩<;>rw[h]
  exact congrArg hashZ (trunc_worth s m p hp)
 all_goals rfl
theorem eqS_hash {s t:Sca} (hs:s.fit) (ht:t.fit) (h:eqS s t=true):hashS s=hashS t:=by
 rw[hashS_key s hs,hashS_key t ht,(eqS_key s t hs ht).1 h]
theorem eqS_symm (s t:Sca) (hs:s.fit) (ht:t.fit):eqS s t=eqS t s:=by
 rw[Bool.eq_iff_iff,eqS_key s t hs ht,eqS_key t s ht hs]
 exact eq_comm
theorem eqS_trans {s t u:Sca} (hs:s.fit) (ht:t.fit) (hu:u.fit) (h1:eqS s t=true) (h2:eqS t u=true):eqS s u=true:=by
 rw[eqS_key s u hs hu]
 exact((eqS_key s t hs ht).1 h1).trans ((eqS_key t u ht hu).1 h2)
def HC:Nat→VT→Prop
 |0,y=>SC y
 |n+1,y=>SC y∨(Box y∧y.f0=7∧y.f5.length≤16∧ ∀k∈y.f5,HC n k)
theorem hc_of: ∀{n:Nat} {y:VT},CT n y→HkT n y→HC n y
 |0,y,h,_=>h
 |n+1,y,h,k=>by
  rcases h with h|⟨hb,hl,hk,hc⟩
  ·exact Or.inl h
  ·rcases k with k|⟨k7,kk⟩
   ·exfalso
    omega
   ·exact Or.inr ⟨hb,k7,hl,fun q hq=>hc_of (hk q hq) (kk q hq)⟩
theorem HC.cases {n:Nat} {y:VT} (h:HC n y):SC y∨(y.f0=7∧Box y∧y.f5.length≤16∧ ∃m,n=m+1∧ ∀k∈y.f5,HC m k):=by
 cases n with
 |zero=>exact Or.inl h
 |succ n=>
  rcases h with h|⟨hb,h7,hl,hk⟩
  ·exact Or.inl h
  ·exact Or.inr ⟨h7,hb,hl,n,rfl,hk⟩
theorem HC.of_kid {n:Nat} {y k:VT} (h:HC n y) (hk:k∈y.f5):HC (n-1) k:=by
 rcases h.cases with h|⟨_,_,_,m,rfl,hc⟩
 ·rw[h.kids] at hk;cases hk
 ·exact hc k hk
theorem HC.sc {y:VT} (h:SC y): ∀n,HC n y
 |0=>h
 |n+1=>Or.inl h
theorem eqV_sca {s t:Sca} {x y:VT} (m:Nat) (hx:Canon s x) (hy:Canon t y):eqV (m+1) x y=eqS s t:=by
  unfold eqV
  by_cases hn:isNum x=true∧isNum y=true
  · rw[if_pos (by rw[hn.1,hn.2];rfl)]
    exact canon_ncmp hx hy hn.1 hn.2
  · have hn':(isNum x&&isNum y)=false:=by
      rw[Bool.and_eq_false_iff]
      by_cases h1:isNum x=true
      ·exact Or.inr (by simpa using fun h=>hn ⟨h1,h⟩)
      ·exact Or.inl (by simpa using h1)
    rw[if_neg (by rw[hn'];decide)]
    have h5x:=hx.kids
    have h5y:=hy.kids
    have hkx:=hx.kind
    have hky:=hy.kind
    have cx:=canon_num hx
    have cy:=canon_num hy
    by_cases hk:s.kind=t.kind
    · rw[if_neg (by rw[hkx,hky,hk,h5x,h5y];simp)]
      cases s<;>cases t<;>simp[Sca.kind] at hk hkx hky
      ·rw[if_pos hkx];rfl
      · rw[if_neg (by omega),if_pos hkx,(canon_bool hx).2,(canon_bool hy).2]
        rename_i a b
        cases a<;>cases b<;>rfl
      ·exfalso;exact hn ⟨by rw[cx];rfl,by rw[cy];rfl⟩
      ·exfalso;exact hn ⟨by rw[cx];rfl,by rw[cy];rfl⟩
      · rw[if_neg (by omega),if_neg (by omega),if_neg (by omega),if_neg (by omega),h5x,h5y,(canon_str hx).2,(canon_str hy).2]
        simp[all2,eqS]
      · rw[if_neg (by omega),if_neg (by omega),if_neg (by omega),if_neg (by omega),h5x,h5y,(canon_bytes hx).2,(canon_bytes hy).2,eqS_bytes]
        simp[all2]
    · rw[if_pos (Or.inl (by rw[hkx,hky];omega))]
      exact(eqS_other hk (fun⟨q1,q2⟩=>hn ⟨by rw[cx];rcases q1 with q|q<;>simp[q],by rw[cy];rcases q2 with q|q<;>simp[q]⟩)).symm
theorem eqV_far {x y:VT} (m:Nat) (h:(x.f0<6∧y.f0=7)∨(x.f0=7∧y.f0<6)):eqV (m+1) x y=false:=by
 unfold eqV isNum
 rw[if_neg,if_pos (Or.inl (by omega))]
 rcases h with⟨_,h⟩|⟨h,_⟩<;>rw[h]<;>simp
theorem eqV_tup {x y:VT} (m:Nat) (hx:x.f0=7) (hy:y.f0=7) (ht:x.f4=y.f4):eqV (m+1) x y=(x.f5.length==y.f5.length&&all2 (eqV m) x.f5 y.f5):=by
 unfold eqV isNum
 rw[if_neg (by rw[hx];simp)]
 by_cases hl:x.f5.length=y.f5.length
 ·rw[if_neg (by rw[hx,hy];simp[hl]),if_neg (by omega),if_neg (by omega),if_neg (by omega),if_neg (by omega),ht]
  have h4:(y.f4==y.f4)=true:=(ba_beq _ _).2 rfl
  simp[hl,h4]
 ·rw[if_pos (Or.inr hl)]
  simp[hl]
theorem all2_iff (e:VT→VT→Bool): ∀(xs ys:List VT),all2 e xs ys=true↔ ∀i (h1:i<xs.length) (h2:i<ys.length),e xs[i] ys[i]=true
 |[],ys=>by simp[all2]
 |x::xs,[]=>by simp[all2]
 |x::xs,y::ys=>by
  rw[all2,Bool.and_eq_true,all2_iff e xs ys]
  constructor
  ·rintro⟨h,hr⟩ i h1 h2
   cases i with
   |zero=>exact h
   |succ i=>exact hr i (by simpa using h1) (by simpa using h2)
  ·intro h
   exact⟨h 0 (by simp) (by simp),fun i h1 h2=>h (i+1) (by simpa using h1) (by simpa using h2)⟩
theorem eqV_symm: ∀(m i j:Nat) (x y:VT),HC i x→HC j y→eqV m x y=eqV m y x
 |0,_,_,_,_,_,_=>rfl
 |m+1,i,j,x,y,hx,hy=>by
  rcases hx.cases with sx|⟨kx,bx,_,i',rfl,cx⟩<;>rcases hy.cases with sy|⟨ky,bY,_,j',rfl,cy⟩
  ·obtain⟨s,hs,fs⟩:=sx
   obtain⟨t,ht,ft⟩:=sy
   rw[eqV_sca m hs ht,eqV_sca m ht hs,eqS_symm s t fs ft]
  ·rw[eqV_far m (Or.inl ⟨sx.kind.2,ky⟩),eqV_far m (Or.inr ⟨ky,sx.kind.2⟩)]
  ·rw[eqV_far m (Or.inr ⟨kx,sy.kind.2⟩),eqV_far m (Or.inl ⟨sy.kind.2,kx⟩)]
  ·have ht:x.f4=y.f4:=by rw[bx.2.2.2,bY.2.2.2]
   rw[eqV_tup m kx ky ht,eqV_tup m ky kx ht.symm]
   have e1:(x.f5.length==y.f5.length)=(y.f5.length==x.f5.length):=by rw[Bool.eq_iff_iff,beq_iff_eq,beq_iff_eq];exact eq_comm
   rw[e1]
   congr 1
   rw[Bool.eq_iff_iff,all2_iff,all2_iff]
   exact⟨fun h q h1 h2=>by rw[eqV_symm m _ _ _ _ (cy _ (List.getElem_mem h1)) (cx _ (List.getElem_mem h2))];exact h q h2 h1,fun h q h1 h2=>by rw[eqV_symm m _ _ _ _ (cx _ (List.getElem_mem h1)) (cy _ (List.getElem_mem h2))];exact h q h2 h1⟩
theorem eqV_trans: ∀(m i j k:Nat) (x y z:VT),HC i x→HC j y→HC k z→eqV m x y=true→eqV m y z=true→eqV m x z=true
 |0,_,_,_,_,_,_,_,_,_,h,_=>by cases h
 |m+1,i,j,k,x,y,z,hx,hy,hz,h1,h2=>by
  rcases hx.cases with sx|⟨kx,bx,_,i',rfl,cx⟩<;>rcases hy.cases with sy|⟨ky,bY,_,j',rfl,cy⟩<;>rcases hz.cases with sz|⟨kz,bz,_,k',rfl,cz⟩
  ·obtain⟨s,hs,fs⟩:=sx
   obtain⟨t,ht,ft⟩:=sy
   obtain⟨u,hu,fu⟩:=sz
   rw[eqV_sca m hs ht] at h1
   rw[eqV_sca m ht hu] at h2
   rw[eqV_sca m hs hu]
   exact eqS_trans fs ft fu h1 h2
  ·rw[eqV_far m (Or.inl ⟨sy.kind.2,kz⟩)] at h2;cases h2
  ·rw[eqV_far m (Or.inl ⟨sx.kind.2,ky⟩)] at h1;cases h1
  ·rw[eqV_far m (Or.inl ⟨sx.kind.2,ky⟩)] at h1;cases h1
  ·rw[eqV_far m (Or.inr ⟨kx,sy.kind.2⟩)] at h1;cases h1
  ·rw[eqV_far m (Or.inr ⟨kx,sy.kind.2⟩)] at h1;cases h1
  ·rw[eqV_far m (Or.inr ⟨ky,sz.kind.2⟩)] at h2;cases h2
  ·have t1:x.f4=y.f4:=by rw[bx.2.2.2,bY.2.2.2]
   have t2:y.f4=z.f4:=by rw[bY.2.2.2,bz.2.2.2]
   rw[eqV_tup m kx ky t1,Bool.and_eq_true,all2_iff] at h1
   rw[eqV_tup m ky kz t2,Bool.and_eq_true,all2_iff] at h2
   rw[eqV_tup m kx kz (t1.trans t2),Bool.and_eq_true,all2_iff]
   obtain⟨l1,h1⟩:=h1
   obtain⟨l2,h2⟩:=h2
   simp only[beq_iff_eq] at l1 l2⊢
   exact⟨l1.trans l2,fun q q1 q2=>eqV_trans m _ _ _ _ _ _ (cx _ (List.getElem_mem q1)) (cy _ (List.getElem_mem (l1▸q1))) (cz _ (List.getElem_mem q2)) (h1 q q1 (l1▸q1)) (h2 q (l1▸q1) q2)⟩
def tupStep (n:Int) (s:Int×Int) (y:Int):Int×Int:=
 (bits .xor .u32 s.1 (IntKind.u32.wrap (y*s.2)),IntKind.u32.wrap (s.2+IntKind.u32.wrap (82520+IntKind.u32.wrap (n+n))))
def tupFold (n:Int) (l:List Int):Int×Int:=l.foldl (tupStep n) (3430008,1000003)
def hashT:Nat→VT→Int
 |0,y=>hashS ((scaOf y).getD .none)
 |n+1,y=>if y.f0=7 then(tupFold (y.f5.length:Int) (y.f5.map (hashT n))).1 else hashS ((scaOf y).getD .none)
theorem hashT_sca {s:Sca} {y:VT} (h:Canon s y): ∀n,hashT n y=hashS s
 |0=>by unfold hashT;rw[h.sca];rfl
 |n+1=>by
  have hk:=h.kind
  unfold hashT
  rw[if_neg (by rw[hk];cases s<;>simp[Sca.kind]),h.sca];rfl
theorem hashT_tup {y:VT} (n:Nat) (h:y.f0=7):hashT (n+1) y=(tupFold (y.f5.length:Int) (y.f5.map (hashT n))).1:=by
 rw[hashT,if_pos h]
theorem eqV_hash: ∀(m n i j:Nat) (x y:VT),HC i x→HC j y→eqV m x y=true→hashT n x=hashT n y
 |0,_,_,_,_,_,_,_,h=>by cases h
 |m+1,n,i,j,x,y,hx,hy,h=>by
  rcases hx.cases with sx|⟨kx,bx,_,i',rfl,cx⟩<;>rcases hy.cases with sy|⟨ky,bY,_,j',rfl,cy⟩
  ·obtain⟨s,hs,fs⟩:=sx
   obtain⟨t,ht,ft⟩:=sy
   rw[eqV_sca m hs ht] at h
   rw[hashT_sca hs,hashT_sca ht]
   exact eqS_hash fs ft h
  ·rw[eqV_far m (Or.inl ⟨sx.kind.2,ky⟩)] at h;cases h
  ·rw[eqV_far m (Or.inr ⟨kx,sy.kind.2⟩)] at h;cases h
  ·rw[eqV_tup m kx ky (by rw[bx.2.2.2,bY.2.2.2]),Bool.and_eq_true,all2_iff] at h
   obtain⟨l,h⟩:=h
   simp only[beq_iff_eq] at l
   cases n with
   |zero=>
    have e: ∀z:VT,z.f0=7→scaOf z=none:=fun z hz=>by
     unfold scaOf
     rw[if_neg (by omega),if_neg (by omega),if_neg (by omega),if_neg (by omega),if_neg (by omega),if_neg (by omega)]
    unfold hashT
    rw[e x kx,e y ky]
   |succ n=>
    rw[hashT_tup n kx,hashT_tup n ky,l]
    congr 2
    refine List.ext_getElem (by simpa using l) fun q q1 q2=>?_
    simp only[List.getElem_map]
    have q1':q<x.f5.length:=by simpa using q1
    have q2':q<y.f5.length:=by simpa using q2
    exact eqV_hash m n _ _ _ _ (cx _ (List.getElem_mem q1')) (cy _ (List.getElem_mem q2')) (h q q1' q2')
theorem fnv_succ (s:ByteArray) (k:Nat) (h:k<s.size):(s.data.toList.take (k+1)).foldl fnvStep 2166136261=fnvStep ((s.data.toList.take k).foldl fnvStep 2166136261) s[k]:=by
 have hl:k<s.data.toList.length:=by simpa using h
 rw[List.take_succ_eq_append_getElem hl,List.foldl_append]
 rfl
set_option maxRecDepth 100000 in
theorem softHash_c (s:ByteArray) (w:World) (hs:s.size≤2147483647):Calls Tryz.prog 367 #[.string s] w fun e w'=>e= .returned (.int .u32 (fnv s))∧w'=w:=by
 go_enter Tryz.func367,Tryz.ntmps367
 go_wp2_with fail
 go_loopw [3,4] (fun h i wr=> ∃k:Nat,k≤s.size∧h= .int .u32 ((s.data.toList.take k).foldl fnvStep 2166136261)∧i= .int .i64 k∧wr=w) (fun _ i _=>s.size-(intOf i).toNat)
 case atStart=>exact⟨0,Nat.zero_le _,rfl,rfl,rfl⟩
 case round=>
  obtain⟨k,hk,rfl,rfl,rfl⟩:=hrel
  by_cases hlt:k<s.size
  ·have HF:=Lib.hid (fnv_succ s k hlt)
   obtain⟨x,hx⟩: ∃x,(s.data.toList.take k).foldl fnvStep 2166136261=x:=⟨_,rfl⟩
   rw[hx] at HF⊢
   clear hx
   go_wp2
   go_roundw
   case rel=>
    refine⟨k+1,by omega,?_,by go_num,trivial⟩
    rw[HF.out]
    unfold fnvStep
    have hc:(s[k].toNat:Int)%4294967296=s[k].toNat:=by have:=s[k].toNat_lt;omega
    rw[wrap32,hc]
   case measure=>simp[intOf];omega
  ·have hke:k=s.size:=by omega
   subst hke
   have hf:(s.data.toList.take s.size).foldl fnvStep 2166136261=fnv s:=by
    rw[List.take_of_length_le (by simp)]
    rfl
   rw[hf]
   go_wp2
   go_ret
   exact⟨rfl,rfl⟩
theorem hashString_c (s:ByteArray) (w:World) (hs:s.size≤2147483647):Calls Tryz.prog 365 #[.string s] w fun e w'=>e= .returned (.int .u32 (fnv s))∧w'=w:=by
 have HS:=Lib.hid (fun w=>softHash_c s w hs)
 clear hs
 go_enter Tryz.func365,Tryz.ntmps365
 go_wp2_with (go_at_call 367;(with_reducible refine(HS.out _).mono ?_);rintro e w1 ⟨rfl,hw1⟩;have HW:=Lib.hid hw1;clear hw1)
 go_ret
 exact⟨rfl,HW.out⟩
theorem hashStr_c (s:ByteArray) (w:World) (hs:s.size≤2147483647):Calls Tryz.prog 357 #[.string s] w fun e w'=>e= .returned (.tuple #[.int .u32 (hashS (.str s)), .nilIface])∧Below w.heap.size w w':=by
 have HS:=Lib.hid (fun w=>hashString_c s w hs)
 clear hs
 go_enter Tryz.func357,Tryz.ntmps357
 go_wp2_with (go_at_call 365;(with_reducible refine(HS.out _).mono ?_);rintro e w1 ⟨rfl,hw1⟩;have HW:=Lib.hid hw1;clear hw1)
 go_ret2
 exact⟨rfl,by rw[HW.out];exact Below.refl _ _⟩
theorem hashBytes_c (s:ByteArray) (w:World) (hs:s.size≤2147483647):Calls Tryz.prog 371 #[.string s] w fun e w'=>e= .returned (.tuple #[.int .u32 (hashS (.bytes s)), .nilIface])∧Below w.heap.size w w':=by
 have HS:=Lib.hid (fun w=>hashStr_c s w hs)
 clear hs
 go_enter Tryz.func371,Tryz.ntmps371
 go_wp2_with (go_at_call 357;(with_reducible refine(HS.out _).mono ?_);rintro e w1 ⟨rfl,hb1⟩;have HB:=Lib.hid hb1;clear hb1)
 go_ret2
 exact⟨rfl,HB.out⟩
theorem hashNone_c (v:Value) (w:World):Calls Tryz.prog 344 #[v] w fun e w'=>e= .returned (.tuple #[.int .u32 (hashS .none), .nilIface])∧Below w.heap.size w w':=by
 go_enter Tryz.func344,Tryz.ntmps344
 go_wp2
 go_ret2
 exact⟨rfl,Below.refl _ _⟩
theorem hashBool_c (b:Bool) (w:World):Calls Tryz.prog 350 #[.bool b] w fun e w'=>e= .returned (.tuple #[.int .u32 (hashS (.bool b)), .nilIface])∧Below w.heap.size w w':=by
 cases b
 all_goals
  go_enter Tryz.func350,Tryz.ntmps350
  go_wp2_with (go_at_call 354;(with_reducible refine(b2i_c _ _).mono ?_);rintro e w1 ⟨rfl,hw1⟩;have HW:=Lib.hid hw1;clear hw1)
  go_ret2
  exact⟨rfl,by rw[HW.out];exact Below.refl _ _⟩
def HIv (w:World) (v:Value) (x:Int):Prop:=
 (sml x=true∧v= .agg #[.int .i64 x, .pointer none])∨
 (sml x=false∧ ∃g n u zs,v= .agg #[.int .i64 0, .pointer (some ⟨g,0,none⟩)]∧PI w g 0 n u zs∧bval n zs=x)
theorem SIv.hi {B:Nat} {w:World} {v:Value} {x:Int} (h:SIv B w v x):HIv w v x:=by
 rcases h with h|⟨hs,g,neg,u,zs,e,hg,hb,hv,_⟩
 ·exact Or.inl h
 ·exact Or.inr ⟨hs,g,neg,u,zs,e,hb.pi,hv⟩
theorem HIv.shape {w:World} {v:Value} {x:Int} (h:HIv w v x): ∃y p,v= .agg #[.int .i64 y, .pointer p]:=by
 rcases h with⟨_,rfl⟩|⟨_,g,n,u,zs,rfl,_⟩<;>exact⟨_,_,rfl⟩
theorem bits_c (g:Nat) (neg:Bool) (v:Value) (zs:List Int) (w:World) (h:PI w g 0 neg v zs):Calls Tryz.prog 328 #[.pointer (some ⟨g,0,none⟩)] w fun e w'=>e= .returned v∧w'=w:=by
 have c1:=h.c1
 simp only[Nat.zero_add] at c1
 obtain⟨A,c,rfl,_⟩:=h.sl.c
 clear h
 go_enter Tryz.func328,Tryz.ntmps328
 go_wp2
 go_ret
 exact⟨rfl,rfl⟩
theorem low_word (neg:Bool) (zs:List Int) (hw:Words zs) (h:0<zs.length):zs[0]=((bval neg zs).natAbs:Int)%18446744073709551616:=by
 cases zs with
 |nil=>simp at h
 |cons z zs=>
  have h0:=hw z (by simp)
  have hb:=(leN_bd zs (fun x hx=>hw x (by simp[hx]))).1
  have e:((bval neg (z::zs)).natAbs:Int)=z+18446744073709551616*leN zs:=by
   unfold bval
   rw[leN_cons]
   cases neg<;>simp<;>omega
  rw[e]
  simp
  omega
set_option maxRecDepth 100000 in
theorem hashInt_c (u:Value) (x:Int) (w:World) (h:HIv w u x):Calls Tryz.prog 323 #[u] w fun e w'=>e= .returned (.tuple #[.int .u32 (hashS (.int x)), .nilIface])∧Below w.heap.size w w':=by
  have HB0:Hid (∀o,Below w.heap.size w (w.alloc o)):=fun o=>(Below.refl _ _).alloc (Nat.le_refl _) o
  rcases h with⟨hs,rfl⟩|⟨hs,g,neg,u1,zs,rfl,hi,he⟩
  · have HL:Hid (hashS (.int x)=hashLo (IntKind.u64.wrap x)):=Lib.hid (by show hashLo (loZ x)=_;unfold loZ;rw[if_pos hs])
    clear hs
    go_enter Tryz.func323,Tryz.ntmps323
    go_wp2_with (go_at_call 98;(with_reducible refine(get_c _ _ _).mono ?_);rintro e w1 ⟨rfl,hb1⟩;have HB:=Lib.hid hb1;clear hb1)
    go_ret2
    exact⟨by rw[HL.out];rfl,(HB0.out _).trans (HB.out.mono (by simp))⟩
  · have hne:zs≠[]:=by
      rintro rfl
      rw[show x=0 by rw[←he];unfold bval;cases neg<;>rfl] at hs
      cases hs
    have hpos:=List.length_pos_iff.2 hne
    have HL:Hid (hashS (.int x)=hashLo zs[0]):=Lib.hid (by show hashLo (loZ x)=_;unfold loZ;rw[if_neg (by rw[hs];decide),low_word neg zs hi.words hpos,he])
    have HI:=Lib.hid hi
    obtain⟨A1,c1,hv,hlc,h63,hne3⟩:=hi.sl
    obtain⟨b,o,rfl,hB,hlt,hc⟩:=hne3 hne
    subst hv
    have hc0:=hc 0 hpos
    obtain⟨z0,hz0⟩: ∃z,zs[0]=z:=⟨_,rfl⟩
    rw[hz0] at HL hc0
    have hposI:(0:Int)<zs.length:=by omega
    clear hz0 hc hs he hi hne hne3 hlc
    have HC:Hid (∀W,Below w.heap.size w W→W.cell? ⟨b,o,none⟩=some (.int .u64 z0)):=Lib.hid fun W hW=>(hW.cell (p:=⟨b,o,none⟩) hlt).trans (by simpa using hc0)
    clear hc0
    go_enter Tryz.func323,Tryz.ntmps323
    go_wp2_with (first
      |(go_at_call 98;(with_reducible refine(get_c _ _ _).mono ?_);rintro e w1 ⟨rfl,hb1⟩;have HB:=Lib.hid ((HB0.out _).trans (hb1.mono (HB0.out _).size));clear hb1)
      |(go_at_call 328;(with_reducible refine(bits_c g neg _ zs _ (HI.out.below HB.out)).mono ?_);rintro e w2 ⟨rfl,hw2⟩;have HW:=Lib.hid hw2;clear hw2;have hc0:=HC.out _ HB.out;rw[←HW.out] at hc0))
    go_ret2
    exact⟨by rw[HL.out];rfl,by rw[HW.out];exact HB.out⟩
end Go.Proofs.YtkplnbjgkhmbcaaGreatDoor
namespace Go.Proofs.YtkplnbjgkhmbcaaGreatDoor
open Go.RowKit Go.Shelf Go.Proofs.YtkplnbjgkhmbcaaGreatDoorW.PrintWords Go.Proofs.YtkplnbjgkhmbcaaGreatDoorW.PrintLast Go.Proofs.YtkplnbjgkhmbcaaGreatDoorW.PrintMore
set_option linter.unusedVariables false
set_option linter.unusedSimpArgs false
theorem setWord0_c (w:World):Calls Tryz.prog 133 #[.slice none 0 0, .int .u64 0] w fun e w'=>e= .returned (.slice none 0 0)∧w'=w:=by
 go_enter Tryz.func133,Tryz.ntmps133
 go_wp2
 go_ret
 exact⟨rfl,rfl⟩
set_option maxRecDepth 100000 in
theorem divW1_c (B:Nat) (v:Value) (zs:List Int) (w:World) (h:Sl .u64 B w v zs) (hmax:zs.length≤4398046511104):
 Calls Tryz.prog 204 #[.slice none 0 0,v, .int .u64 1] w fun e w'=> ∃A c,e= .returned (.tuple #[.slice A zs.length c, .int .u64 0])∧Sl .u64 w.heap.size w' (.slice A zs.length c) zs∧Below w.heap.size w w':=by
 have HC:=Lib.hid (fun w' (hb:Below w.heap.size w w')=>natSet_c B v zs w' (h.below hb) hmax)
 obtain⟨A,c,rfl,_⟩:=h.c
 clear h
 have HB0:Hid (Below w.heap.size w w):=Below.refl _ _
 go_enter Tryz.func204,Tryz.ntmps204
 go_wp2_with (go_at_call 160;with_reducible refine(HC.out _ HB0.out).mono ?_;rintro e w1 ⟨u,rfl,hs1,hb1⟩;obtain⟨A1,k1,rfl,_⟩:=hs1.c;have HS1:=Lib.hid hs1;have HB1:=Lib.hid hb1;clear hs1 hb1)
 go_ret2
 exact⟨_,_,rfl,HS1.out,HB1.out⟩
set_option maxRecDepth 100000 in
theorem natDiv1_c (B B2:Nat) (v v2:Value) (zs:List Int) (w:World) (h:Sl .u64 B w v zs) (hmax:zs.length≤4398046511104) (hv:Sl .u64 B2 w v2 [1]):
 Calls Tryz.prog 175 #[.slice none 0 0, .pointer none, .slice none 0 0,v,v2] w fun e w'=> ∃A c,e= .returned (.tuple #[.slice A zs.length c, .slice none 0 0])∧Sl .u64 w.heap.size w' (.slice A zs.length c) zs∧Below w.heap.size w w':=by
 have HD:=Lib.hid (divW1_c B v zs w h hmax)
 obtain⟨A2,c2,rfl,k1,k2,k3⟩:=hv
 obtain⟨b,o,rfl,hB,hlt,hc⟩:=k3 (by simp)
 have x0:w.cell? ⟨b,o,none⟩=some (.int .u64 1):=by simpa using hc 0 (by simp)
 obtain⟨A,c,rfl,_⟩:=h.c
 clear h hc k3 k2 k1 hmax
 have HS:=Lib.hid (fun w=>setWord0_c w)
 go_enter Tryz.func175,Tryz.ntmps175
 go_wp2_with (first
  |(go_at_call 204;with_reducible refine HD.out.mono ?_;rintro e w1 ⟨A1,c1,rfl,hs1,hb1⟩;have HS1:=Lib.hid hs1;have HB1:=Lib.hid hb1;clear hs1 hb1)
  |(go_at_call 133;with_reducible refine(HS.out _).mono ?_;rintro e w2 ⟨rfl,hw2⟩;have HW:=Lib.hid hw2;clear hw2))
 go_ret2
 exact⟨_,_,rfl,by rw[HW.out];exact HS1.out,by rw[HW.out];exact HB1.out⟩
set_option maxRecDepth 100000 in
set_option maxHeartbeats 8000000 in
theorem quoRem1_c (gq gr g:Nat) (n:Bool) (va vb:Value) (xs:List Int) (w:World) (h:RT w g n va xs vb [1]) (hne:xs≠[]) (hmax:xs.length≤4398046511104)
 (hq:w.heap[gq]?=some (.cells #[.bool false, .slice none 0 0] 196 (0,0))) (hr:w.heap[gr]?=some (.cells #[.bool false, .slice none 0 0] 196 (0,0)))
 (hqr:gq<gr) (ne1:g<gq):
 Calls Tryz.prog 221 #[.pointer (some ⟨gq,0,none⟩), .pointer (some ⟨g,0,none⟩), .pointer (some ⟨g,2,none⟩), .pointer (some ⟨gr,0,none⟩)] w fun e w'=>
  e= .returned (.tuple #[.pointer (some ⟨gq,0,none⟩), .pointer (some ⟨gr,0,none⟩)])∧(∃u,BI w' gq n u xs)∧w'.heap[gr]?=some (.cells #[.bool false, .slice none 0 0] 196 (0,0))∧Below gq w w':=by
 have ha:=h.pa
 have hb:=h.pb
 have HC:=Lib.hid (fun w' (hbb:Below w.heap.size w w')=>natDiv1_c _ _ va vb xs w' (ha.sl.below hbb) hmax (hb.sl.below hbb))
 have HW:=Lib.hid (And.intro h.wa h.ta)
 have HN:=Lib.hid (List.length_pos_iff.2 hne)
 have a0:=ha.c0
 have a1:=ha.c1
 have b0:=hb.c0
 have b1:=hb.c1
 have hla:=ha.lt
 have q0:w.cell? ⟨gq,0,none⟩=some (.bool false):=blk_cell hq 0 _ rfl
 have q1:w.cell? ⟨gq,1,none⟩=some (.slice none 0 0):=blk_cell hq 1 _ rfl
 have qf0:=blk_free hq 0
 have qf1:=blk_free hq 1
 have r0:w.cell? ⟨gr,0,none⟩=some (.bool false):=blk_cell hr 0 _ rfl
 have r1:w.cell? ⟨gr,1,none⟩=some (.slice none 0 0):=blk_cell hr 1 _ rfl
 have rf0:=blk_free hr 0
 have rf1:=blk_free hr 1
 have hlq:=lt_of_cell q0
 have hlr:=lt_of_cell r0
 have HQ:=Lib.hid hq
 have HR:=Lib.hid hr
 obtain⟨A,c,rfl,_⟩:=ha.sl.c
 obtain⟨A2,c2,rfl,_⟩:=hb.sl.c
 simp only[List.length_singleton] at HC b1
 simp only[Nat.zero_add] at a1
 have hlb:=hla
 clear ha hb hq hr hmax hne h
 have HB0:Hid (Below w.heap.size w w):=Below.refl _ _
 have nqa:gq≠g:=by omega
 have nqb:=nqa
 have nra:gr≠g:=by omega
 have nrb:=nra
 have HL0:=Lib.hid hlr
 have HA0:=Lib.hid a0
 have HA1:=Lib.hid b0
 go_enter Tryz.func221,Tryz.ntmps221
 go_upto_region 1 with fail
 go_cut [] (fun wx=> ∃A3 c3,wx.heap[gq]?=some (.cells #[.bool false, .slice A3 xs.length c3] 196 (0,0))∧wx.heap[gr]?=some (.cells #[.bool false, .slice none 0 0] 196 (0,0))∧Hid (Sl .u64 (gr+1) wx (.slice A3 xs.length c3) xs)∧Hid (Below gq w wx))
 case first=>
  refine wp_region_held_drew (S:=fun w'=>w'.cell? ⟨g,1,none⟩=some (.slice A xs.length c)∧w'.cell? ⟨g,3,none⟩=some (.slice A2 1 c2)) (by kernel_rfl) ⟨a1,b1⟩ (fun hHeld=>?_)
  refine wpAnyH_take (i:=0) (oi:=_) (v:=?_) rfl (by kernel_rfl) (by kernel_rfl) (by kernel_rfl) (fun _ _ _ h=>h) (Or.inl ⟨by rfl,?_⟩) (by assumption) ?_;rotate_left 1;·(intro w hSw;(try dsimp only at hSw);go_simp;first|done|with_reducible rfl)
  try simp only[Act.put,List.setIfInBounds_toArray,List.set_cons_zero,List.set_cons_succ,List.getElem_toArray,List.getElem_cons_zero,List.getElem_cons_succ]
  refine wpAnyH_take (i:=1) (oi:=_) (v:=?_) rfl (by kernel_rfl) (by kernel_rfl) (by kernel_rfl) (fun _ _ _ h=>h) (Or.inl ⟨by rfl,?_⟩) (by assumption) ?_;rotate_left 1;·(intro w hSw;(try dsimp only at hSw);go_simp;first|done|with_reducible rfl)
  try simp only[Act.put,List.setIfInBounds_toArray,List.set_cons_zero,List.set_cons_succ,List.getElem_toArray,List.getElem_cons_zero,List.getElem_cons_succ]
  refine wpAnyH_take (i:=2) (oi:=_) (v:=?_) rfl (by kernel_rfl) (by kernel_rfl) (by kernel_rfl) (fun _ _ _ h=>h) (Or.inl ⟨by rfl,?_⟩) (by assumption) ?_;rotate_left 1;·(intro w hSw;(try dsimp only at hSw);go_simp;first|done|with_reducible rfl)
  try simp only[Act.put,List.setIfInBounds_toArray,List.set_cons_zero,List.set_cons_succ,List.getElem_toArray,List.getElem_cons_zero,List.getElem_cons_succ]
  refine wpAnyH_take (i:=3) (oi:=_) (v:=?_) rfl (by kernel_rfl) (by kernel_rfl) (by kernel_rfl) (fun _ _ _ h=>h) (Or.inl ⟨by rfl,?_⟩) (by assumption) ?_;rotate_left 1;·(intro w hSw;(try dsimp only at hSw);go_simp;first|done|with_reducible rfl)
  try simp only[Act.put,List.setIfInBounds_toArray,List.set_cons_zero,List.set_cons_succ,List.getElem_toArray,List.getElem_cons_zero,List.getElem_cons_succ]
  refine wpAnyH_take (i:=4) (oi:=_) (v:=?_) rfl (by kernel_rfl) (by kernel_rfl) (by kernel_rfl) (fun _ _ _ h=>h) (Or.inl ⟨by rfl,?_⟩) (by assumption) ?_;rotate_left 1;·(intro w hSw;(try dsimp only at hSw);go_simp;first|done|with_reducible rfl)
  try simp only[Act.put,List.setIfInBounds_toArray,List.set_cons_zero,List.set_cons_succ,List.getElem_toArray,List.getElem_cons_zero,List.getElem_cons_succ]
  refine wpAnyH_take (i:=6) (oi:=_) (v:=?_) rfl (by kernel_rfl) (by kernel_rfl) (by kernel_rfl) (fun _ _ _ h=>h) (Or.inl ⟨by rfl,?_⟩) (by assumption) ?_;rotate_left 1;·(intro w hSw;(try dsimp only at hSw);go_simp;first|done|with_reducible rfl)
  try simp only[Act.put,List.setIfInBounds_toArray,List.set_cons_zero,List.set_cons_succ,List.getElem_toArray,List.getElem_cons_zero,List.getElem_cons_succ]
  refine wpAnyH_take (i:=7) (oi:=_) (v:=?_) rfl (by kernel_rfl) (by kernel_rfl) (by kernel_rfl) (fun _ _ _ h=>h) (Or.inl ⟨by rfl,?_⟩) (by assumption) ?_;rotate_left 1;·(intro w hSw;(try dsimp only at hSw);go_simp;first|done|with_reducible rfl)
  try simp only[Act.put,List.setIfInBounds_toArray,List.set_cons_zero,List.set_cons_succ,List.getElem_toArray,List.getElem_cons_zero,List.getElem_cons_succ]
  refine wpAnyH_take (i:=8) (oi:=_) (v:=?_) rfl (by kernel_rfl) (by kernel_rfl) (by kernel_rfl) (fun _ _ _ h=>h) (Or.inl ⟨by rfl,?_⟩) (by assumption) ?_;rotate_left 1;·(intro w hSw;(try dsimp only at hSw);go_simp;first|done|with_reducible rfl)
  try simp only[Act.put,List.setIfInBounds_toArray,List.set_cons_zero,List.set_cons_succ,List.getElem_toArray,List.getElem_cons_zero,List.getElem_cons_succ]
  refine wpAnyH_take (i:=10) (oi:=_) (v:=?_) rfl (by kernel_rfl) (by kernel_rfl) (by kernel_rfl) (fun _ _ _ h=>h) (Or.inl ⟨by rfl,?_⟩) (by assumption) ?_;rotate_left 1;·(intro w hSw;(try dsimp only at hSw);go_simp;first|done|with_reducible rfl)
  try simp only[Act.put,List.setIfInBounds_toArray,List.set_cons_zero,List.set_cons_succ,List.getElem_toArray,List.getElem_cons_zero,List.getElem_cons_succ]
  refine wpAnyH_take (i:=11) (oi:=_) (v:=?_) rfl (by kernel_rfl) (by kernel_rfl) (by kernel_rfl) (fun _ _ _ h=>h) (Or.inl ⟨by rfl,?_⟩) (by assumption) ?_;rotate_left 1;·(intro w hSw;(try dsimp only at hSw);go_simp;first|done|with_reducible rfl)
  try simp only[Act.put,List.setIfInBounds_toArray,List.set_cons_zero,List.set_cons_succ,List.getElem_toArray,List.getElem_cons_zero,List.getElem_cons_succ]
  refine wpAnyH_take (i:=12) (oi:=_) (v:=?_) rfl (by kernel_rfl) (by kernel_rfl) (by kernel_rfl) (fun _ _ _ h=>h) (Or.inl ⟨by rfl,?_⟩) (by assumption) ?_;rotate_left 1;·(intro w hSw;(try dsimp only at hSw);go_simp;first|done|with_reducible rfl)
  try simp only[Act.put,List.setIfInBounds_toArray,List.set_cons_zero,List.set_cons_succ,List.getElem_toArray,List.getElem_cons_zero,List.getElem_cons_succ]
  refine wpAnyH_take (i:=13) (oi:=_) (v:=?_) rfl (by kernel_rfl) (by kernel_rfl) (by kernel_rfl) (fun _ _ _ h=>h) (Or.inl ⟨by rfl,?_⟩) (by assumption) ?_;rotate_left 1;·(intro w hSw;(try dsimp only at hSw);go_simp;first|done|with_reducible rfl)
  try simp only[Act.put,List.setIfInBounds_toArray,List.set_cons_zero,List.set_cons_succ,List.getElem_toArray,List.getElem_cons_zero,List.getElem_cons_succ]
  refine wpAnyH_take (i:=14) (oi:=_) (v:=?_) rfl (by kernel_rfl) (by kernel_rfl) (by kernel_rfl) (fun _ _ _ h=>h) (Or.inl ⟨by rfl,?_⟩) (by assumption) ?_;rotate_left 1;·(intro w hSw;(try dsimp only at hSw);go_simp;first|done|with_reducible rfl)
  try simp only[Act.put,List.setIfInBounds_toArray,List.set_cons_zero,List.set_cons_succ,List.getElem_toArray,List.getElem_cons_zero,List.getElem_cons_succ]
  refine wpAnyH_take (i:=15) (oi:=_) (v:=?_) rfl (by kernel_rfl) (by kernel_rfl) (by kernel_rfl) (fun _ _ _ h=>h) (Or.inl ⟨by rfl,?_⟩) (by assumption) ?_;rotate_left 1;·(intro w hSw;(try dsimp only at hSw);go_simp;first|done|with_reducible rfl)
  try simp only[Act.put,List.setIfInBounds_toArray,List.set_cons_zero,List.set_cons_succ,List.getElem_toArray,List.getElem_cons_zero,List.getElem_cons_succ]
  refine wpAnyH_take (i:=16) (oi:=_) (v:=?_) rfl (by kernel_rfl) (by kernel_rfl) (by kernel_rfl) (fun _ _ _ h=>h) (Or.inl ⟨by rfl,?_⟩) (by assumption) ?_;rotate_left 1;·(intro w hSw;(try dsimp only at hSw);go_simp;first|done|with_reducible rfl)
  try simp only[Act.put,List.setIfInBounds_toArray,List.set_cons_zero,List.set_cons_succ,List.getElem_toArray,List.getElem_cons_zero,List.getElem_cons_succ]
  refine wpAnyH_take (i:=17) (oi:=_) (v:=?_) rfl (by kernel_rfl) (by kernel_rfl) (by kernel_rfl) (fun _ _ _ h=>h) (Or.inl ⟨by rfl,?_⟩) (by assumption) ?_;rotate_left 1;·(intro w hSw;(try dsimp only at hSw);go_simp;first|done|with_reducible rfl)
  try simp only[Act.put,List.setIfInBounds_toArray,List.set_cons_zero,List.set_cons_succ,List.getElem_toArray,List.getElem_cons_zero,List.getElem_cons_succ]
  refine wpAnyH_ready (rs:=[5,9]) (by kernel_rfl) (by simp) ?_
  refine AllReadyH.cons (o:=_) rfl (fun K hK=>?_) (AllReadyH.cons (o:=_) rfl (fun K hK=>?_) AllReadyH.nil)
  ·go_simp
   refine hK.out _ _ ⟨a1,b1⟩ (fun hHeld=>?_)
   clear hK K
   try simp only[Act.put,List.setIfInBounds_toArray,List.set_cons_zero,List.set_cons_succ]
   refine wpAnyH_ready (rs:=[9]) (by kernel_rfl) (by simp) ?_
   refine AllReadyH.cons (o:=_) rfl (fun K hK=>?_) AllReadyH.nil
   go_simp
   refine hK.out _ _ ⟨a1,b1⟩ (fun hHeld=>?_)
   clear hK K
   try simp only[Act.put,List.setIfInBounds_toArray,List.set_cons_zero,List.set_cons_succ,List.getElem_toArray,List.getElem_cons_zero,List.getElem_cons_succ]
   refine wpAnyH_ready (rs:=[18]) (by kernel_rfl) (by simp) ?_
   refine AllReadyH.cons (o:=_) rfl (fun K hK=>?_) AllReadyH.nil
   go_simp;go_at_call 175;(first|(with_reducible refine(HC.out _ HB0.out).mono ?_)|(with_reducible refine(HC.out _ HB0.out.drew).mono ?_));rintro e w1 ⟨A3,c3,rfl,hs4,hb1⟩;have HS4:=Lib.hid hs4;replace HB0:Hid (Below w.heap.size w w1):=(by first|exact HB0.out.trans hb1|exact HB0.out.drew.trans hb1);have HL:=Lib.hid hb1.size;clear hs4 hb1;have q1':=(HB0.out.cell (p:=⟨gq,1,none⟩) hlq).trans q1;have qf1':=(HB0.out.frozen (p:=⟨gq,1,none⟩) hlq).trans qf1;have r1':=(HB0.out.cell (p:=⟨gr,1,none⟩) hlr).trans r1;have rf1':=(HB0.out.frozen (p:=⟨gr,1,none⟩) hlr).trans rf1;have a1':=(HB0.out.cell (p:=⟨g,1,none⟩) hla).trans a1;have b1':=(HB0.out.cell (p:=⟨g,3,none⟩) hlb).trans b1;have HKq:Hid (∀v,((w1.setCell ⟨gq,1,none⟩ v).cell? ⟨g,1,none⟩=some (.slice A xs.length c)∧(w1.setCell ⟨gq,1,none⟩ v).cell? ⟨g,3,none⟩=some (.slice A2 1 c2))):=Lib.hid fun v=>⟨(cell_setCell_ne _ _ _ _ (Or.inl nqa)).trans a1',(cell_setCell_ne _ _ _ _ (Or.inl nqb)).trans b1'⟩;have HKr:Hid (∀v u,(((w1.setCell ⟨gq,1,none⟩ v).setCell ⟨gr,1,none⟩ u).cell? ⟨g,1,none⟩=some (.slice A xs.length c)∧((w1.setCell ⟨gq,1,none⟩ v).setCell ⟨gr,1,none⟩ u).cell? ⟨g,3,none⟩=some (.slice A2 1 c2))):=Lib.hid fun v u=>⟨(cell_setCell_ne _ _ _ _ (Or.inl nra)).trans (HKq.out v).1,(cell_setCell_ne _ _ _ _ (Or.inl nrb)).trans (HKq.out v).2⟩
   refine hK.out _ _ ⟨a1',b1'⟩ (fun hHeld=>?_)
   clear hK K
   try simp only[Act.put,List.setIfInBounds_toArray,List.set_cons_zero,List.set_cons_succ,List.getElem_toArray,List.getElem_cons_zero,List.getElem_cons_succ]
   refine wpAnyH_take (i:=19) (oi:=_) (v:=?_) rfl (by kernel_rfl) (by kernel_rfl) (by kernel_rfl) (fun _ _ _ h=>h) (Or.inl ⟨by rfl,?_⟩) (by assumption) ?_;rotate_left 1;·(intro w hSw;(try dsimp only at hSw);go_simp;first|done|with_reducible rfl)
   try simp only[Act.put,List.setIfInBounds_toArray,List.set_cons_zero,List.set_cons_succ,List.getElem_toArray,List.getElem_cons_zero,List.getElem_cons_succ]
   refine wpAnyH_take (i:=20) (oi:=_) (v:=?_) rfl (by kernel_rfl) (by kernel_rfl) (by kernel_rfl) (fun _ _ _ h=>h) (Or.inl ⟨by rfl,?_⟩) (by assumption) ?_;rotate_left 1;·(intro w hSw;(try dsimp only at hSw);go_simp;first|done|with_reducible rfl)
   try simp only[Act.put,List.setIfInBounds_toArray,List.set_cons_zero,List.set_cons_succ,List.getElem_toArray,List.getElem_cons_zero,List.getElem_cons_succ]
   refine wpAnyH_take (i:=21) (oi:=_) (v:=?_) rfl (by kernel_rfl) (by kernel_rfl) (by kernel_rfl) (fun _ _ _ h=>h) (Or.inl ⟨by rfl,?_⟩) (by assumption) ?_;rotate_left 1;·(intro w hSw;(try dsimp only at hSw);go_simp;first|done|with_reducible rfl)
   try simp only[Act.put,List.setIfInBounds_toArray,List.set_cons_zero,List.set_cons_succ,List.getElem_toArray,List.getElem_cons_zero,List.getElem_cons_succ]
   refine wpAnyH_take (i:=22) (oi:=_) (v:=?_) rfl (by kernel_rfl) (by kernel_rfl) (by kernel_rfl) (fun _ _ _ h=>h) (Or.inl ⟨by rfl,?_⟩) (by assumption) ?_;rotate_left 1;·(intro w hSw;(try dsimp only at hSw);go_simp;first|done|with_reducible rfl)
   try simp only[Act.put,List.setIfInBounds_toArray,List.set_cons_zero,List.set_cons_succ,List.getElem_toArray,List.getElem_cons_zero,List.getElem_cons_succ]
   refine wpAnyH_take (i:=23) (oi:=_) (v:=?_) rfl (by kernel_rfl) (by kernel_rfl) (by kernel_rfl) (fun _ _ _ h=>h) (Or.inl ⟨by rfl,?_⟩) (by assumption) ?_;rotate_left 1;·(intro w hSw;(try dsimp only at hSw);go_simp;first|done|with_reducible rfl)
   try simp only[Act.put,List.setIfInBounds_toArray,List.set_cons_zero,List.set_cons_succ,List.getElem_toArray,List.getElem_cons_zero,List.getElem_cons_succ]
   refine wpAnyH_ready (rs:=[24]) (by kernel_rfl) (by simp) ?_
   refine AllReadyH.cons (o:=_) rfl (fun K hK=>?_) AllReadyH.nil
   go_simp
   refine hK.out _ _ (HKq.out _) (fun hHeld=>?_)
   clear hK K
   try simp only[Act.put,List.setIfInBounds_toArray,List.set_cons_zero,List.set_cons_succ,List.getElem_toArray,List.getElem_cons_zero,List.getElem_cons_succ]
   refine wpAnyH_take (i:=25) (oi:=_) (v:=?_) rfl (by kernel_rfl) (by kernel_rfl) (by kernel_rfl) (fun _ _ _ h=>h) (Or.inl ⟨by rfl,?_⟩) (by assumption) ?_;rotate_left 1;·(intro w hSw;(try dsimp only at hSw);go_simp;first|done|with_reducible rfl)
   try simp only[Act.put,List.setIfInBounds_toArray,List.set_cons_zero,List.set_cons_succ,List.getElem_toArray,List.getElem_cons_zero,List.getElem_cons_succ]
   refine wpAnyH_take (i:=26) (oi:=_) (v:=?_) rfl (by kernel_rfl) (by kernel_rfl) (by kernel_rfl) (fun _ _ _ h=>h) (Or.inl ⟨by rfl,?_⟩) (by assumption) ?_;rotate_left 1;·(intro w hSw;(try dsimp only at hSw);go_simp;first|done|with_reducible rfl)
   try simp only[Act.put,List.setIfInBounds_toArray,List.set_cons_zero,List.set_cons_succ,List.getElem_toArray,List.getElem_cons_zero,List.getElem_cons_succ]
   refine wpAnyH_ready (rs:=[27]) (by kernel_rfl) (by simp) ?_
   refine AllReadyH.cons (o:=_) rfl (fun K hK=>?_) AllReadyH.nil
   go_simp
   refine hK.out _ _ (HKr.out _ _) (fun hHeld=>?_)
   clear hK K
   try simp only[Act.put,List.setIfInBounds_toArray,List.set_cons_zero,List.set_cons_succ,List.getElem_toArray,List.getElem_cons_zero,List.getElem_cons_succ]
   refine wpAnyH_done (by kernel_rfl) ?_ _
   (go_wp2_with fail;go_meet;exact⟨A3,c3,blk_far (blk_put (blk_keepH HQ.out HB0.out hlq) 1 _ rfl) (by show gq≠gr;omega) _,blk_put (blk_far (blk_keepH HR.out HB0.out hlr) (by show gr≠gq;omega) _) 1 _ rfl,Lib.hid (((HS4.out.mono (by have:=HL0.out;show _≤w.heap.size;omega)).setCell (p:=⟨gq,1,none⟩) _ (by show gq<gr+1;omega)).setCell (p:=⟨gr,1,none⟩) _ (by show gr<gr+1;omega)),Lib.hid (((HB0.out.mono (Nat.le_of_lt hlq)).setCell (Nat.le_refl _) _).setCell (by show gq≤gr;omega) _)⟩)
  ·go_simp
   refine hK.out _ _ ⟨a1,b1⟩ (fun hHeld=>?_)
   clear hK K
   try simp only[Act.put,List.setIfInBounds_toArray,List.set_cons_zero,List.set_cons_succ]
   refine wpAnyH_ready (rs:=[5]) (by kernel_rfl) (by simp) ?_
   refine AllReadyH.cons (o:=_) rfl (fun K hK=>?_) AllReadyH.nil
   go_simp
   refine hK.out _ _ ⟨a1,b1⟩ (fun hHeld=>?_)
   clear hK K
   try simp only[Act.put,List.setIfInBounds_toArray,List.set_cons_zero,List.set_cons_succ,List.getElem_toArray,List.getElem_cons_zero,List.getElem_cons_succ]
   refine wpAnyH_ready (rs:=[18]) (by kernel_rfl) (by simp) ?_
   refine AllReadyH.cons (o:=_) rfl (fun K hK=>?_) AllReadyH.nil
   go_simp;go_at_call 175;(first|(with_reducible refine(HC.out _ HB0.out).mono ?_)|(with_reducible refine(HC.out _ HB0.out.drew).mono ?_));rintro e w1 ⟨A3,c3,rfl,hs4,hb1⟩;have HS4:=Lib.hid hs4;replace HB0:Hid (Below w.heap.size w w1):=(by first|exact HB0.out.trans hb1|exact HB0.out.drew.trans hb1);have HL:=Lib.hid hb1.size;clear hs4 hb1;have q1':=(HB0.out.cell (p:=⟨gq,1,none⟩) hlq).trans q1;have qf1':=(HB0.out.frozen (p:=⟨gq,1,none⟩) hlq).trans qf1;have r1':=(HB0.out.cell (p:=⟨gr,1,none⟩) hlr).trans r1;have rf1':=(HB0.out.frozen (p:=⟨gr,1,none⟩) hlr).trans rf1;have a1':=(HB0.out.cell (p:=⟨g,1,none⟩) hla).trans a1;have b1':=(HB0.out.cell (p:=⟨g,3,none⟩) hlb).trans b1;have HKq:Hid (∀v,((w1.setCell ⟨gq,1,none⟩ v).cell? ⟨g,1,none⟩=some (.slice A xs.length c)∧(w1.setCell ⟨gq,1,none⟩ v).cell? ⟨g,3,none⟩=some (.slice A2 1 c2))):=Lib.hid fun v=>⟨(cell_setCell_ne _ _ _ _ (Or.inl nqa)).trans a1',(cell_setCell_ne _ _ _ _ (Or.inl nqb)).trans b1'⟩;have HKr:Hid (∀v u,(((w1.setCell ⟨gq,1,none⟩ v).setCell ⟨gr,1,none⟩ u).cell? ⟨g,1,none⟩=some (.slice A xs.length c)∧((w1.setCell ⟨gq,1,none⟩ v).setCell ⟨gr,1,none⟩ u).cell? ⟨g,3,none⟩=some (.slice A2 1 c2))):=Lib.hid fun v u=>⟨(cell_setCell_ne _ _ _ _ (Or.inl nra)).trans (HKq.out v).1,(cell_setCell_ne _ _ _ _ (Or.inl nrb)).trans (HKq.out v).2⟩
   refine hK.out _ _ ⟨a1',b1'⟩ (fun hHeld=>?_)
   clear hK K
   try simp only[Act.put,List.setIfInBounds_toArray,List.set_cons_zero,List.set_cons_succ,List.getElem_toArray,List.getElem_cons_zero,List.getElem_cons_succ]
   refine wpAnyH_take (i:=19) (oi:=_) (v:=?_) rfl (by kernel_rfl) (by kernel_rfl) (by kernel_rfl) (fun _ _ _ h=>h) (Or.inl ⟨by rfl,?_⟩) (by assumption) ?_;rotate_left 1;·(intro w hSw;(try dsimp only at hSw);go_simp;first|done|with_reducible rfl)
   try simp only[Act.put,List.setIfInBounds_toArray,List.set_cons_zero,List.set_cons_succ,List.getElem_toArray,List.getElem_cons_zero,List.getElem_cons_succ]
   refine wpAnyH_take (i:=20) (oi:=_) (v:=?_) rfl (by kernel_rfl) (by kernel_rfl) (by kernel_rfl) (fun _ _ _ h=>h) (Or.inl ⟨by rfl,?_⟩) (by assumption) ?_;rotate_left 1;·(intro w hSw;(try dsimp only at hSw);go_simp;first|done|with_reducible rfl)
   try simp only[Act.put,List.setIfInBounds_toArray,List.set_cons_zero,List.set_cons_succ,List.getElem_toArray,List.getElem_cons_zero,List.getElem_cons_succ]
   refine wpAnyH_take (i:=21) (oi:=_) (v:=?_) rfl (by kernel_rfl) (by kernel_rfl) (by kernel_rfl) (fun _ _ _ h=>h) (Or.inl ⟨by rfl,?_⟩) (by assumption) ?_;rotate_left 1;·(intro w hSw;(try dsimp only at hSw);go_simp;first|done|with_reducible rfl)
   try simp only[Act.put,List.setIfInBounds_toArray,List.set_cons_zero,List.set_cons_succ,List.getElem_toArray,List.getElem_cons_zero,List.getElem_cons_succ]
   refine wpAnyH_take (i:=22) (oi:=_) (v:=?_) rfl (by kernel_rfl) (by kernel_rfl) (by kernel_rfl) (fun _ _ _ h=>h) (Or.inl ⟨by rfl,?_⟩) (by assumption) ?_;rotate_left 1;·(intro w hSw;(try dsimp only at hSw);go_simp;first|done|with_reducible rfl)
   try simp only[Act.put,List.setIfInBounds_toArray,List.set_cons_zero,List.set_cons_succ,List.getElem_toArray,List.getElem_cons_zero,List.getElem_cons_succ]
   refine wpAnyH_take (i:=23) (oi:=_) (v:=?_) rfl (by kernel_rfl) (by kernel_rfl) (by kernel_rfl) (fun _ _ _ h=>h) (Or.inl ⟨by rfl,?_⟩) (by assumption) ?_;rotate_left 1;·(intro w hSw;(try dsimp only at hSw);go_simp;first|done|with_reducible rfl)
   try simp only[Act.put,List.setIfInBounds_toArray,List.set_cons_zero,List.set_cons_succ,List.getElem_toArray,List.getElem_cons_zero,List.getElem_cons_succ]
   refine wpAnyH_ready (rs:=[24]) (by kernel_rfl) (by simp) ?_
   refine AllReadyH.cons (o:=_) rfl (fun K hK=>?_) AllReadyH.nil
   go_simp
   refine hK.out _ _ (HKq.out _) (fun hHeld=>?_)
   clear hK K
   try simp only[Act.put,List.setIfInBounds_toArray,List.set_cons_zero,List.set_cons_succ,List.getElem_toArray,List.getElem_cons_zero,List.getElem_cons_succ]
   refine wpAnyH_take (i:=25) (oi:=_) (v:=?_) rfl (by kernel_rfl) (by kernel_rfl) (by kernel_rfl) (fun _ _ _ h=>h) (Or.inl ⟨by rfl,?_⟩) (by assumption) ?_;rotate_left 1;·(intro w hSw;(try dsimp only at hSw);go_simp;first|done|with_reducible rfl)
   try simp only[Act.put,List.setIfInBounds_toArray,List.set_cons_zero,List.set_cons_succ,List.getElem_toArray,List.getElem_cons_zero,List.getElem_cons_succ]
   refine wpAnyH_take (i:=26) (oi:=_) (v:=?_) rfl (by kernel_rfl) (by kernel_rfl) (by kernel_rfl) (fun _ _ _ h=>h) (Or.inl ⟨by rfl,?_⟩) (by assumption) ?_;rotate_left 1;·(intro w hSw;(try dsimp only at hSw);go_simp;first|done|with_reducible rfl)
   try simp only[Act.put,List.setIfInBounds_toArray,List.set_cons_zero,List.set_cons_succ,List.getElem_toArray,List.getElem_cons_zero,List.getElem_cons_succ]
   refine wpAnyH_ready (rs:=[27]) (by kernel_rfl) (by simp) ?_
   refine AllReadyH.cons (o:=_) rfl (fun K hK=>?_) AllReadyH.nil
   go_simp
   refine hK.out _ _ (HKr.out _ _) (fun hHeld=>?_)
   clear hK K
   try simp only[Act.put,List.setIfInBounds_toArray,List.set_cons_zero,List.set_cons_succ,List.getElem_toArray,List.getElem_cons_zero,List.getElem_cons_succ]
   refine wpAnyH_done (by kernel_rfl) ?_ _
   (go_wp2_with fail;go_meet;exact⟨A3,c3,blk_far (blk_put (blk_keepH HQ.out HB0.out hlq) 1 _ rfl) (by show gq≠gr;omega) _,blk_put (blk_far (blk_keepH HR.out HB0.out hlr) (by show gr≠gq;omega) _) 1 _ rfl,Lib.hid (((HS4.out.mono (by have:=HL0.out;show _≤w.heap.size;omega)).setCell (p:=⟨gq,1,none⟩) _ (by show gq<gr+1;omega)).setCell (p:=⟨gr,1,none⟩) _ (by show gr<gr+1;omega)),Lib.hid (((HB0.out.mono (Nat.le_of_lt hlq)).setCell (Nat.le_refl _) _).setCell (by show gq≤gr;omega) _)⟩)
 case rest=>
  obtain⟨A3,c3,hq2,hr2,HS4,HBX⟩:=hcut
  clear a0 a1 b0 b1 q0 q1 r0 r1 qf0 qf1 rf0 rf1 HQ HR HL0 HB0 hla hlb hlq hlr
  have q0:wc.cell? ⟨gq,0,none⟩=some (.bool false):=blk_cell hq2 0 _ rfl
  have q1:wc.cell? ⟨gq,1,none⟩=some (.slice A3 xs.length c3):=blk_cell hq2 1 _ rfl
  have qf0:=blk_free hq2 0
  have r0:wc.cell? ⟨gr,0,none⟩=some (.bool false):=blk_cell hr2 0 _ rfl
  have r1:wc.cell? ⟨gr,1,none⟩=some (.slice none 0 0):=blk_cell hr2 1 _ rfl
  have rf0:=blk_free hr2 0
  have a0:wc.cell? ⟨g,0,none⟩=some (.bool n):=(HBX.out.cell (p:=⟨g,0,none⟩) ne1).trans HA0.out
  have b0:wc.cell? ⟨g,2,none⟩=some (.bool false):=(HBX.out.cell (p:=⟨g,2,none⟩) ne1).trans HA1.out
  have HQ2:=Lib.hid hq2
  have HR2:=Lib.hid hr2
  clear hq2 hr2 HC HA0 HA1
  have HEnd:Hid (BI ((wc.setCell ⟨gq,0,none⟩ (.bool n)).setCell ⟨gr,0,none⟩ (.bool false)) gq n (.slice A3 xs.length c3) xs∧((wc.setCell ⟨gq,0,none⟩ (.bool n)).setCell ⟨gr,0,none⟩ (.bool false)).heap[gr]?=some (.cells #[.bool false, .slice none 0 0] 196 (0,0))∧Below gq w ((wc.setCell ⟨gq,0,none⟩ (.bool n)).setCell ⟨gr,0,none⟩ (.bool false))):=Lib.hid
   ⟨⟨blk_far (blk_put HQ2.out 0 _ rfl) (by show gq≠gr;omega) _,((HS4.out.setCell (p:=⟨gq,0,none⟩) _ (by show gq<gr+1;omega)).setCell (p:=⟨gr,0,none⟩) _ (by show gr<gr+1;omega)).mono (by omega),HW.out.1,HW.out.2⟩,blk_put (blk_far HR2.out (by show gr≠gq;omega) _) 0 _ rfl,(HBX.out.setCell (Nat.le_refl _) _).setCell (by show gq≤gr;omega) _⟩
  have hn3:=HN.out
  obtain⟨g1,g3⟩:=dec_yes hn3
  clear hn3
  cases n
  all_goals
   go_wp2_with fail
   go_region
   all_goals go_wp2
   all_goals go_ret2
   all_goals first|exact⟨rfl,⟨_,HEnd.out.1⟩,HEnd.out.2.1,HEnd.out.2.2⟩|exact⟨rfl,⟨_,HEnd.out.1.drew⟩,HEnd.out.2.1,HEnd.out.2.2.drew⟩
set_option maxRecDepth 100000 in
theorem div1_c (gq g:Nat) (n:Bool) (va vb:Value) (xs:List Int) (w:World) (h:RT w g n va xs vb [1]) (hne:xs≠[]) (hmax:xs.length≤4398046511104)
 (hq:w.heap[gq]?=some (.cells #[.bool false, .slice none 0 0] 196 (0,0))) (ne1:g<gq):
 Calls Tryz.prog 203 #[.pointer (some ⟨gq,0,none⟩), .pointer (some ⟨g,0,none⟩), .pointer (some ⟨g,2,none⟩)] w fun e w'=>
  e= .returned (.pointer (some ⟨gq,0,none⟩))∧(∃u,BI w' gq n u xs)∧Below gq w w':=by
 have b0:=h.pb.c0
 have hlq:=lt_blk hq
 have HQ:=Lib.hid (quoRem1_c gq w.heap.size g n va vb xs (w.alloc (.cells #[.bool false, .slice none 0 0] 196)) (h.below ((Below.refl _ w).alloc (Nat.le_refl _) _)) hne hmax (blk_alloc hq _) (blk_new _ _) hlq ne1)
 have HB0:Hid (Below gq w (w.alloc (.cells #[.bool false, .slice none 0 0] 196))):=Lib.hid ((Below.refl _ w).alloc (Nat.le_of_lt hlq) _)
 clear h hne hmax hq
 go_enter Tryz.func203,Tryz.ntmps203
 go_wp2_with (go_at_call 221;(with_reducible refine HQ.out.mono ?_);rintro e w1 ⟨rfl,⟨u,hbi⟩,hr1,hb1⟩;have r0:=blk_cell hr1 0 _ rfl;have HE:=Lib.hid (And.intro hbi (HB0.out.trans hb1));clear hbi hr1 hb1)
 go_ret
 exact⟨rfl,⟨u,HE.out.1⟩,HE.out.2⟩
end Go.Proofs.YtkplnbjgkhmbcaaGreatDoor
namespace Go.Proofs.YtkplnbjgkhmbcaaGreatDoor
open Go.RowKit Go.Shelf Go.Proofs.YtkplnbjgkhmbcaaGreatDoorW.PrintWords Go.Proofs.YtkplnbjgkhmbcaaGreatDoorW.PrintLast Go.Proofs.YtkplnbjgkhmbcaaGreatDoorW.PrintMore Go.Proofs.YtkplnbjgkhmbcaaGreatDoor.PFnCompare Go.Proofs.YtkplnbjgkhmbcaaGreatDoor.PCmp Go.Proofs.YtkplnbjgkhmbcaaGreatDoor.PbytesOf
set_option linter.unusedVariables false
set_option linter.unusedSimpArgs false
structure Agr (B:Nat) (w w':World):Prop where
 sz:w.heap.size≤w'.heap.size
 eq: ∀j,B≤j→j<w.heap.size→w'.heap[j]?=w.heap[j]?
theorem Below.agr {w w':World} (h:Below w.heap.size w w'):Agr 0 w w':=⟨h.size,fun j _ hj=>h.block j hj⟩
theorem Agr.mono {B B':Nat} {w w':World} (h:Agr B w w') (hB:B≤B'):Agr B' w w':=⟨h.sz,fun j h1 h2=>h.eq j (Nat.le_trans hB h1) h2⟩
theorem agr_set (w:World) (p:Addr) (v:Value):Agr (p.block+1) w (w.setCell p v):=by
 refine⟨by simp[World.setCell],fun j h1 h2=>?_⟩
 simp only[World.setCell,Array.getElem?_modify]
 rw[if_neg (by omega)]
theorem cell_of_block {w w':World} {b:Nat} (h:w'.heap[b]?=w.heap[b]?) (o:Nat):w'.cell? ⟨b,o,none⟩=w.cell? ⟨b,o,none⟩:=by
 simp only[World.cell?,h]
theorem Sl.agr {k:IntKind} {B:Nat} {w w':World} {v:Value} {l:List Int} (h:Sl k B w v l) (ha:Agr B w w'):Sl k B w' v l:=by
 obtain⟨A,c,rfl,h1,h2,h3⟩:=h
 refine⟨A,c,rfl,h1,h2,fun hne=>?_⟩
 obtain⟨b,o,rfl,hB,hlt,hc⟩:=h3 hne
 exact⟨b,o,rfl,hB,Nat.lt_of_lt_of_le hlt ha.sz,fun j hj=>(cell_of_block (ha.eq b hB hlt) _).trans (hc j hj)⟩
theorem ScaV.agr {B:Nat} {w w':World} {v:Value} {s:Sca} (h:ScaV B w v s) (ha:Agr B w w'):ScaV B w' v s:=by
 cases s<;>first|exact h|skip
 obtain⟨u,rfl,h⟩:=h
 refine⟨u,rfl,?_⟩
 rcases h with h|⟨h,g,neg,v,zs,e,hg,hi,r⟩
 ·exact Or.inl h
 ·exact Or.inr ⟨h,g,neg,v,zs,e,hg,⟨(ha.eq g hg (lt_blk hi.blk)).trans hi.blk,hi.sl.agr (ha.mono (by omega)),hi.words,hi.top⟩,r⟩
theorem ScaV.lower {B B':Nat} {w:World} {v:Value} {s:Sca} (h:ScaV B w v s) (hB:B'≤B):ScaV B' w v s:=by
 cases s<;>first|exact h|(obtain⟨u,rfl,h⟩:=h;exact⟨u,rfl,h.mono hB⟩)
structure HEnt where
 h:Int
 k:Value
 v:Value
def prevP (g i:Nat):Value:=if i=0 then .pointer (some ⟨g,44,none⟩) else .pointer (some ⟨g,1+5*(8-i)+3,none⟩)
def nextP (g n i:Nat):Value:=if i+1<n then .pointer (some ⟨g,1+5*(6-i),none⟩) else .pointer none
def slotF (g:Nat) (es:List HEnt) (i f:Nat):Value:=
 match es[i]? with
 |none=>if f=0 then .int .u32 0 else if f=1 then .nilIface else if f=2 then .nilIface else .pointer none
 |some e=>if f=0 then .int .u32 e.h else if f=1 then e.k else if f=2 then e.v else if f=3 then nextP g es.length i else prevP g i
def htCell (g:Nat) (tab:Bool) (es:List HEnt) (it:Int) (o:Nat):Value:=
 if o=0 then(if tab then .slice (some ⟨g,1,none⟩) 1 1 else .slice none 0 0)
 else if o<41 then slotF g es (7-(o-1)/5) ((o-1)%5)
 else if o=41 then .pointer none
 else if o=42 then .int .u32 es.length
 else if o=43 then .int .u32 it
 else if o=44 then(if es.length=0 then .pointer none else .pointer (some ⟨g,36,none⟩))
 else if o=45 then(if tab then prevP g es.length else .pointer none)
 else .bool false
def htArr (g:Nat) (tab:Bool) (es:List HEnt) (it:Int):Array Value:=((List.range 47).map (htCell g tab es it)).toArray
theorem htArr_at (g:Nat) (tab:Bool) (es:List HEnt) (it:Int) (o:Nat) (h:o<47):(htArr g tab es it)[o]?=some (htCell g tab es it o):=by
 unfold htArr
 simp[h]
def HTab (w:World) (g:Nat) (T:TypeId) (tab:Bool) (es:List HEnt) (it:Int):Prop:=w.heap[g]?=some (.cells (htArr g tab es it) T (0,0))
theorem HTab.cell {w:World} {g:Nat} {T:TypeId} {tab:Bool} {es:List HEnt} {it:Int} (h:HTab w g T tab es it) (o:Nat) (ho:o<47):w.cell? ⟨g,o,none⟩=some (htCell g tab es it o):=blk_cell h o _ (htArr_at g tab es it o ho)
theorem HTab.free {w:World} {g:Nat} {T:TypeId} {tab:Bool} {es:List HEnt} {it:Int} (h:HTab w g T tab es it) (o:Nat):w.frozen? ⟨g,o,none⟩=false:=blk_free h o
def hT (y:VT):Int:=hashT 8 y
def hkey (y:VT):Int:=if hT y=0 then 1 else hT y
def RowV (B:Nat) (w:World) (P:Value→VT→Prop) (sl:Value) (xs:List VT):Prop:=
 ∃A c us,sl= .slice A us.length c∧us.length≤c∧us.length=xs.length∧
  (us≠[]→ ∃M o,A=some ⟨M,o,none⟩∧B≤M∧ ∀i (h:i<us.length),w.cell? ⟨M,o+i,none⟩=some us[i])∧
  ∀i (h1:i<us.length) (h2:i<xs.length),P us[i] xs[i]
def PVs (B:Nat) (w:World) (v:Value) (x:VT):Prop:= ∃s,Canon s x∧s.fit∧ScaV B w v s
def PV (B:Nat):Nat→World→Value→VT→Prop
 |0,w,v,x=>PVs B w v x
 |n+1,w,v,x=>PVs B w v x∨(Box x∧(
   (x.f0=6∧ ∃g sl,v= .iface 82 (.pointer (some ⟨g,0,none⟩))∧B≤g∧LT w g sl∧RowV B w (PV B n w) sl x.f5)∨
   (x.f0=7∧ ∃sl,v= .iface 98 sl∧RowV B w (PV B n w) sl x.f5)∨
   (x.f0=8∧ ∃g es,v= .iface 99 (.pointer (some ⟨g,0,none⟩))∧B≤g∧HTab w g 183 (!es.isEmpty) es 0∧x.f5.length=es.length*2∧
    ∀i (h:i<es.length) (h1:i*2<x.f5.length) (h2:i*2+1<x.f5.length),PV B n w es[i].k x.f5[i*2]∧PV B n w es[i].v x.f5[i*2+1]∧es[i].h=hkey x.f5[i*2])∨
   (x.f0=9∧ ∃g es,v= .iface 102 (.pointer (some ⟨g,0,none⟩))∧B≤g∧HTab w g 185 (!es.isEmpty) es 0∧x.f5.length=es.length∧
    ∀i (h:i<es.length) (h1:i<x.f5.length),PV B n w es[i].k x.f5[i]∧es[i].v= .iface 137 (.int .u8 0)∧es[i].h=hkey x.f5[i])))
theorem RowV.agr {B:Nat} {w w':World} {P P':Value→VT→Prop} {sl:Value} {xs:List VT} (h:RowV B w P sl xs) (ha:Agr B w w') (hP: ∀v x,P v x→P' v x):RowV B w' P' sl xs:=by
 obtain⟨A,c,us,rfl,h1,h2,h3,h4⟩:=h
 refine⟨A,c,us,rfl,h1,h2,fun hne=>?_,fun i q1 q2=>hP _ _ (h4 i q1 q2)⟩
 obtain⟨M,o,rfl,hB,hc⟩:=h3 hne
 refine⟨M,o,rfl,hB,fun i hi=>?_⟩
 exact(cell_of_block (ha.eq M hB (lt_of_cell (hc i hi))) _).trans (hc i hi)
theorem RowV.lower {B B':Nat} {w:World} {P P':Value→VT→Prop} {sl:Value} {xs:List VT} (h:RowV B w P sl xs) (hB:B'≤B) (hP: ∀v x,P v x→P' v x):RowV B' w P' sl xs:=by
 obtain⟨A,c,us,rfl,h1,h2,h3,h4⟩:=h
 refine⟨A,c,us,rfl,h1,h2,fun hne=>?_,fun i q1 q2=>hP _ _ (h4 i q1 q2)⟩
 obtain⟨M,o,rfl,hB2,hc⟩:=h3 hne
 exact⟨M,o,rfl,Nat.le_trans hB hB2,hc⟩
theorem PVs.agr {B:Nat} {w w':World} {v:Value} {x:VT} (h:PVs B w v x) (ha:Agr B w w'):PVs B w' v x:=by
 obtain⟨s,h1,h2,h3⟩:=h
 exact⟨s,h1,h2,h3.agr ha⟩
theorem PVs.lower {B B':Nat} {w:World} {v:Value} {x:VT} (h:PVs B w v x) (hB:B'≤B):PVs B' w v x:=by
 obtain⟨s,h1,h2,h3⟩:=h
 exact⟨s,h1,h2,h3.lower hB⟩
theorem PV.agr {B:Nat} {w w':World} (ha:Agr B w w'): ∀{n:Nat} {v:Value} {x:VT},PV B n w v x→PV B n w' v x
 |0,v,x,h=>PVs.agr h ha
 |n+1,v,x,h=>by
  rcases h with h|⟨hb,h⟩
  ·exact Or.inl (h.agr ha)
  ·refine Or.inr ⟨hb,?_⟩
   rcases h with⟨h6,g,sl,e,hg,hl,hr⟩|⟨h7,sl,e,hr⟩|⟨h8,g,es,e,hg,ht,hl,hk⟩|⟨h9,g,es,e,hg,ht,hl,hk⟩
   ·exact Or.inl ⟨h6,g,sl,e,hg,(ha.eq g hg (lt_blk hl)).trans hl,hr.agr ha fun _ _ h=>PV.agr ha h⟩
   ·exact Or.inr (Or.inl ⟨h7,sl,e,hr.agr ha fun _ _ h=>PV.agr ha h⟩)
   ·exact Or.inr (Or.inr (Or.inl ⟨h8,g,es,e,hg,(ha.eq g hg (lt_blk ht)).trans ht,hl,fun i q h1 h2=>⟨PV.agr ha (hk i q h1 h2).1,PV.agr ha (hk i q h1 h2).2.1,(hk i q h1 h2).2.2⟩⟩))
   ·exact Or.inr (Or.inr (Or.inr ⟨h9,g,es,e,hg,(ha.eq g hg (lt_blk ht)).trans ht,hl,fun i q h1=>⟨PV.agr ha (hk i q h1).1,(hk i q h1).2⟩⟩))
theorem PV.lower {B B':Nat} {w:World} (hB:B'≤B): ∀{n:Nat} {v:Value} {x:VT},PV B n w v x→PV B' n w v x
 |0,v,x,h=>PVs.lower h hB
 |n+1,v,x,h=>by
  rcases h with h|⟨hb,h⟩
  ·exact Or.inl (h.lower hB)
  ·refine Or.inr ⟨hb,?_⟩
   rcases h with⟨h6,g,sl,e,hg,hl,hr⟩|⟨h7,sl,e,hr⟩|⟨h8,g,es,e,hg,ht,hl,hk⟩|⟨h9,g,es,e,hg,ht,hl,hk⟩
   ·exact Or.inl ⟨h6,g,sl,e,Nat.le_trans hB hg,hl,hr.lower hB fun _ _ h=>PV.lower hB h⟩
   ·exact Or.inr (Or.inl ⟨h7,sl,e,hr.lower hB fun _ _ h=>PV.lower hB h⟩)
   ·exact Or.inr (Or.inr (Or.inl ⟨h8,g,es,e,Nat.le_trans hB hg,ht,hl,fun i q h1 h2=>⟨PV.lower hB (hk i q h1 h2).1,PV.lower hB (hk i q h1 h2).2.1,(hk i q h1 h2).2.2⟩⟩))
   ·exact Or.inr (Or.inr (Or.inr ⟨h9,g,es,e,Nat.le_trans hB hg,ht,hl,fun i q h1=>⟨PV.lower hB (hk i q h1).1,(hk i q h1).2⟩⟩))
theorem PV.below {B n:Nat} {w w':World} {v:Value} {x:VT} (h:PV B n w v x) (hb:Below w.heap.size w w'):PV B n w' v x:=PV.agr ((Below.agr hb).mono (Nat.zero_le _)) h
theorem PV.setCell {B n:Nat} {w:World} {v:Value} {x:VT} (h:PV B n w v x) {p:Addr} (u:Value) (hp:p.block<B):PV B n (w.setCell p u) v x:=PV.agr ((agr_set w p u).mono hp) h
theorem PV.of_s {B:Nat} {w:World} {v:Value} {x:VT} (h:PVs B w v x): ∀n,PV B n w v x
 |0=>h
 |n+1=>Or.inl h
theorem PV.to_s {B n:Nat} {w:World} {v:Value} {x:VT} (h:PV B n w v x) (hk:x.f0<6):PVs B w v x:=by
 cases n with
 |zero=>exact h
 |succ n=>
  rcases h with h|⟨_,h⟩
  ·exact h
  ·exfalso
   rcases h with⟨h,_⟩|⟨h,_⟩|⟨h,_⟩|⟨h,_⟩<;>omega
theorem PVs.kind {B:Nat} {w:World} {v:Value} {x:VT} (h:PVs B w v x):0≤x.f0∧x.f0<6:=by
 obtain⟨s,h,_⟩:=h
 rw[h.kind]
 cases s<;>simp[Sca.kind]
theorem PV.iface {B n:Nat} {w:World} {v:Value} {x:VT} (h:PV B n w v x): ∃T u,v= .iface T u:=by
 have hs:PVs B w v x→ ∃T u,v= .iface T u:=fun⟨s,_,_,h⟩=>sca_one h
 cases n with
 |zero=>exact hs h
 |succ n=>
  rcases h with h|⟨_,⟨_,g,sl,e,_⟩|⟨_,sl,e,_⟩|⟨_,g,es,e,_⟩|⟨_,g,es,e,_⟩⟩
  ·exact hs h
  all_goals exact⟨_,_,e⟩
theorem hashT_fuel: ∀(n a b:Nat) (y:VT),HC n y→n≤a→n≤b→hashT a y=hashT b y
 |n,a,b,y,h,ha,hb=>by
  rcases h.cases with⟨s,hs,_⟩|⟨k7,_,_,m,rfl,hc⟩
  ·rw[hashT_sca hs,hashT_sca hs]
  ·obtain⟨a,rfl⟩: ∃a',a=a'+1:=⟨a-1,by omega⟩
   obtain⟨b,rfl⟩: ∃b',b=b'+1:=⟨b-1,by omega⟩
   rw[hashT_tup a k7,hashT_tup b k7]
   congr 2
   refine List.map_congr_left fun q hq=>?_
   exact hashT_fuel m a b q (hc q hq) (by omega) (by omega)
theorem hT_tup {n:Nat} {y:VT} (h:HC n y) (hn:n≤8) (h7:y.f0=7):hT y=(tupFold (y.f5.length:Int) (y.f5.map hT)).1:=by
 rcases h.cases with h|⟨_,_,_,m,rfl,hc⟩
 ·exfalso
  have:=h.kind.2
  omega
 ·unfold hT
  rw[hashT_tup 7 h7]
  congr 2
  refine List.map_congr_left fun q hq=>?_
  exact hashT_fuel m 7 8 q (hc q hq) (by omega) (by omega)
theorem hT_sca {s:Sca} {y:VT} (h:Canon s y):hT y=hashS s:=hashT_sca h 8
theorem hkey_eq {i j m:Nat} {x y:VT} (hx:HC i x) (hy:HC j y) (h:eqV m x y=true):hkey x=hkey y:=by
 unfold hkey hT
 rw[eqV_hash m 8 i j x y hx hy h]
theorem newInt64_c (x:Int) (w:World) (hs: -9223372036854775808≤x∧x<9223372036854775808):Calls Tryz.prog 144 #[.int .i64 x] w (NewI w x):=by
  rcases Int.lt_trichotomy x 0 with h|h|h
  · have e1:IntKind.u64.wrap (-IntKind.u64.wrap x)= -x:=by
      have hw: ∀z:Int,IntKind.u64.wrap z=z%18446744073709551616:=fun z=>by simp[IntKind.wrap,IntKind.signed,IntKind.bits]
      rw[hw,hw];omega
    have HE:=Lib.hid (newI_of w x (-x) true)
    go_enter Tryz.func144,Tryz.ntmps144
    go_wp2
    go_ret
    exact HE.out _ (by omega) (by simp)
  ·exact newInt_c x w (by subst h;decide)
  · have e2:decide (x<0)=false:=by simp;omega
    have HE:=Lib.hid (newI_of w x x false)
    go_enter Tryz.func144,Tryz.ntmps144
    go_wp2
    go_ret
    exact HE.out _ (by omega) (by simp)
theorem Sl.far {B:Nat} {w:World} {v:Value} {l:List Int} (h:Sl .u64 B w v l) {g0 o0:Nat} {y:Value} (hy:w.cell? ⟨g0,o0,none⟩=some y) (hn: ∀z,y≠ .int .u64 z) (u:Value):Sl .u64 B (w.setCell ⟨g0,o0,none⟩ u) v l:=by
 obtain⟨A,c,rfl,h1,h2,h3⟩:=h
 refine⟨A,c,rfl,h1,h2,fun hne=>?_⟩
 obtain⟨b,o,rfl,hB,hlt,hc⟩:=h3 hne
 refine⟨b,o,rfl,hB,by simpa [World.setCell] using hlt,fun j hj=>?_⟩
 rw[cell_setCell_ne w ⟨g0,o0,none⟩ ⟨b,o+j,none⟩ u ?_]
 ·exact hc j hj
 ·by_cases e:g0=b
  ·by_cases e2:o0=o+j
   ·subst e e2
    rw[hc j hj] at hy
    injection hy with hy
    exact absurd hy.symm (hn _)
   ·exact Or.inr e2
  ·exact Or.inl e
theorem PI.far {w:World} {g:Nat} {n:Bool} {v:Value} {zs:List Int} (h:PI w g 0 n v zs) {g0 o0:Nat} {y:Value} (hg:g≠g0) (hy:w.cell? ⟨g0,o0,none⟩=some y) (hn: ∀z,y≠ .int .u64 z) (u:Value):PI (w.setCell ⟨g0,o0,none⟩ u) g 0 n v zs:=by
 obtain⟨⟨cs,t,hb,e0,e1⟩,hs,hw,ht⟩:=h
 exact⟨⟨cs,t,blk_far hb hg _,e0,e1⟩,hs.far hy hn u,hw,ht⟩
theorem HIv.put2 {w:World} {g:Nat} {n:Bool} {v:Value} {zs:List Int} {g0:Nat} {y:Int} {p:Option Addr} (h:PI w g 0 n v zs) (hg:g≠g0) (hk:w.heap[g0]?=some (.cells #[.int .i64 y, .pointer p] 122 (0,0))) (a b:Value):PI ((w.setCell ⟨g0,0,none⟩ a).setCell ⟨g0,1,none⟩ b) g 0 n v zs:=
 (h.far hg (blk_cell hk 0 _ rfl) (fun z e=>by injection e with e;cases e) a).far hg (blk_cell (blk_put hk 0 a rfl) 1 _ rfl) (fun z e=>by cases e) b
set_option maxRecDepth 100000 in
theorem makeInt64_c (x:Int) (w:World) (hx: -9223372036854775808≤x∧x<9223372036854775808):Calls Tryz.prog 338 #[.int .i64 x] w fun e w'=> ∃u,e= .returned u∧HIv w' u x∧Below w.heap.size w w':=by
 have HB0:Hid (∀o,Below w.heap.size w (w.alloc o)):=fun o=>(Below.refl _ _).alloc (Nat.le_refl _) o
 have HK0:Hid ((w.alloc (.cells #[.int .i64 0, .pointer none] 122)).heap[w.heap.size]?=some (.cells #[.int .i64 0, .pointer none] 122 (0,0))):=blk_new _ _
 have HN:=Lib.hid (fun W=>newInt64_c x W hx)
 by_cases h1: -2147483648≤x
 ·have d1:decide (-2147483648≤x)=true:=by simp[h1]
  by_cases h2:x≤2147483647
  ·have d2:decide (x≤2147483647)=true:=by simp[h2]
   have hs:sml x=true:=by unfold sml;simp;omega
   have HS:=Lib.hid hs
   clear hs h1 h2 hx
   go_enter Tryz.func338,Tryz.ntmps338
   go_wp2_with (go_at_call 153;(with_reducible refine(makeSmall_c _ _).mono ?_);rintro e w1 ⟨rfl,hb1⟩;have HB:=Lib.hid ((HB0.out _).trans (hb1.mono (HB0.out _).size));obtain⟨q0,q1,f0,f1⟩:=two_cells (blk_below HK0.out hb1);clear hb1)
   refine bodyPost_ret (v:= .agg #[.int .i64 x, .pointer none]) (by simp[results,Tryz.results338,go_sem,q0,q1]) rfl ⟨_,rfl,Or.inl ⟨HS.out,rfl⟩,(HB.out.setCell (p:=⟨w.heap.size,0,none⟩) (Nat.le_refl _) _).setCell (p:=⟨w.heap.size,1,none⟩) (Nat.le_refl _) _⟩
  ·have d2:decide (x≤2147483647)=false:=by simp;omega
   have hs:sml x=false:=by unfold sml;simp;omega
   have HS:=Lib.hid hs
   clear hs h1 h2 hx
   go_enter Tryz.func338,Tryz.ntmps338
   go_wp2_with (first
    |(go_at_call 144;(with_reducible refine(HN.out _).mono ?_);rintro e w1 ⟨g,n,v,zs,hg,rfl,hp,_,hv,_,hb1⟩;have HP:=Lib.hid (And.intro hp hv);have HG:=Lib.hid hg;have HB:=Lib.hid ((HB0.out _).trans (hb1.mono (HB0.out _).size));have HK:=Lib.hid (blk_below HK0.out hb1);clear hp hv hg hb1)
    |(go_at_call 155;(with_reducible refine(makeBig_c _ _).mono ?_);rintro e w2 ⟨rfl,hb2⟩;have HB2:=Lib.hid (HB.out.trans (hb2.mono HB.out.size));have HP2:=Lib.hid (HP.out.1.below hb2);have HK2:=Lib.hid (blk_below HK.out hb2);obtain⟨q0,q1,f0,f1⟩:=two_cells HK2.out;clear hb2))
   have hgne:g≠w.heap.size:=by have:=HG.out;simp at this;omega
   refine bodyPost_ret (v:= .agg #[.int .i64 0, .pointer (some ⟨g,0,none⟩)]) (by simp[results,Tryz.results338,go_sem,q0,q1]) rfl ⟨_,rfl,Or.inr ⟨HS.out,g,n,v,zs,rfl,HIv.put2 HP2.out hgne HK2.out _ _,HP.out.2⟩,(HB2.out.setCell (p:=⟨w.heap.size,0,none⟩) (Nat.le_refl _) _).setCell (p:=⟨w.heap.size,1,none⟩) (Nat.le_refl _) _⟩
 ·have d1:decide (-2147483648≤x)=false:=by simp;omega
  have hs:sml x=false:=by unfold sml;simp;omega
  have HS:=Lib.hid hs
  clear hs h1 hx
  go_enter Tryz.func338,Tryz.ntmps338
  go_wp2_with (first
   |(go_at_call 144;(with_reducible refine(HN.out _).mono ?_);rintro e w1 ⟨g,n,v,zs,hg,rfl,hp,_,hv,_,hb1⟩;have HP:=Lib.hid (And.intro hp hv);have HG:=Lib.hid hg;have HB:=Lib.hid ((HB0.out _).trans (hb1.mono (HB0.out _).size));have HK:=Lib.hid (blk_below HK0.out hb1);clear hp hv hg hb1)
   |(go_at_call 155;(with_reducible refine(makeBig_c _ _).mono ?_);rintro e w2 ⟨rfl,hb2⟩;have HB2:=Lib.hid (HB.out.trans (hb2.mono HB.out.size));have HP2:=Lib.hid (HP.out.1.below hb2);have HK2:=Lib.hid (blk_below HK.out hb2);obtain⟨q0,q1,f0,f1⟩:=two_cells HK2.out;clear hb2))
  have hgne:g≠w.heap.size:=by have:=HG.out;simp at this;omega
  refine bodyPost_ret (v:= .agg #[.int .i64 0, .pointer (some ⟨g,0,none⟩)]) (by simp[results,Tryz.results338,go_sem,q0,q1]) rfl ⟨_,rfl,Or.inr ⟨HS.out,g,n,v,zs,rfl,HIv.put2 HP2.out hgne HK2.out _ _,HP.out.2⟩,(HB2.out.setCell (p:=⟨w.heap.size,0,none⟩) (Nat.le_refl _) _).setCell (p:=⟨w.heap.size,1,none⟩) (Nat.le_refl _) _⟩
theorem ord_worth {a b:Nat} {s t:Bool} {m n:Nat} {p q:Int} (ha:fdat a= .number s m p) (hb:fdat b= .number t n q) (hp: -1074≤p) (hq: -1074≤q):
 f64ord a b=some (compare (smag s m*2^(p+1074).toNat) (smag t n*2^(q+1074).toNat)):=by
 rw[ord_dat,ha,hb]
 show some (compare (Ieee.signed s m (p-min p q).toNat) (Ieee.signed t n (q-min p q).toNat))=_
 rw[signed_eq,signed_eq]
 have hpos:(0:Int)<2^(min p q+1074).toNat:=Int.pow_pos (by decide)
 have e1:(p+1074).toNat=(p-min p q).toNat+(min p q+1074).toNat:=by omega
 have e2:(q+1074).toNat=(q-min p q).toNat+(min p q+1074).toNat:=by omega
 rw[e1,e2,Int.pow_add,Int.pow_add,←Int.mul_assoc,←Int.mul_assoc]
 generalize smag s m*2^(p-min p q).toNat=x
 generalize smag t n*2^(q-min p q).toNat=y
 generalize (2:Int)^(min p q+1074).toNat=k at hpos⊢
 congr 1
 simp only[compare,compareOfLessAndEq]
 have h1:x<y↔x*k<y*k:=⟨fun h=>Int.mul_lt_mul_of_pos_right h hpos,fun h=>Int.lt_of_mul_lt_mul_right h (Int.le_of_lt hpos)⟩
 have h2:x=y↔x*k=y*k:=scale_eq hpos
 by_cases c1:x<y
 ·rw[if_pos c1,if_pos (h1.1 c1)]
 ·rw[if_neg c1,if_neg (fun h=>c1 (h1.2 h))]
  by_cases c2:x=y
  ·rw[if_pos c2,if_pos (h2.1 c2)]
  ·rw[if_neg c2,if_neg (fun h=>c2 (h2.2 h))]
theorem fmin_dat:fdat 14114281232179134464= .number true 4503599627370496 11:=by decide
theorem ftop_dat:fdat 4890909195324358656= .number false 4503599627370496 11:=by decide
theorem K_shift (p:Int) (hp:0≤p):(2:Int)^(p+1074).toNat=2^p.toNat*(KN:Int):=by
 rw[show(p+1074).toNat=p.toNat+(1074-0) by omega,Int.pow_add,KI_split 0 (by decide),Int.pow_zero,Int.one_mul]
theorem two63:(4503599627370496:Int)*2^(11+1074:Int).toNat=9223372036854775808*(KN:Int):=by
 rw[K_shift 11 (by decide),←Int.mul_assoc]
 rfl
theorem tdiv_in {W K:Int} (hK:0<K) (h1: -9223372036854775808*K≤W) (h2:W<9223372036854775808*K): -9223372036854775808≤W.tdiv K∧W.tdiv K<9223372036854775808:=by
 have hm:=Int.mul_tdiv_add_tmod W K
 rcases Int.lt_or_le W 0 with h|h
 ·have h3: -K<W.tmod K:=by have:=Int.lt_tmod_of_pos W hK;exact this
  have h4:W.tmod K≤0:=by
   have:=Int.tmod_nonneg K (show 0≤ -W by omega)
   rw[Int.neg_tmod] at this
   omega
  constructor
  ·rcases Int.lt_or_le (W.tdiv K) (-9223372036854775808) with h5|h5
   ·exfalso
    have h6:W.tdiv K≤ -9223372036854775809:=by omega
    have h7:K*W.tdiv K≤K* -9223372036854775809:=Int.mul_le_mul_of_nonneg_left h6 (Int.le_of_lt hK)
    have h8:K* -9223372036854775809= -9223372036854775808*K-K:=by rw[Int.mul_comm,show(-9223372036854775809:Int)= -9223372036854775808-1 by decide,Int.sub_mul];omega
    omega
   ·exact h5
  ·rcases Int.lt_or_le (W.tdiv K) 9223372036854775808 with h5|h5
   ·exact h5
   ·exfalso
    have h7:K*9223372036854775808≤K*W.tdiv K:=Int.mul_le_mul_of_nonneg_left h5 (Int.le_of_lt hK)
    omega
 ·have h3:W.tmod K<K:=Int.tmod_lt_of_pos W hK
  have h4:0≤W.tmod K:=Int.tmod_nonneg K h
  have h5:0≤W.tdiv K:=Int.tdiv_nonneg h (Int.le_of_lt hK)
  refine⟨by omega,?_⟩
  rcases Int.lt_or_le (W.tdiv K) 9223372036854775808 with h6|h6
  ·exact h6
  ·exfalso
   have h7:K*9223372036854775808≤K*W.tdiv K:=Int.mul_le_mul_of_nonneg_left h6 (Int.le_of_lt hK)
   have h8:K*9223372036854775808=9223372036854775808*K:=Int.mul_comm _ _
   omega
theorem toInt_num (s:Bool) (m:Nat) (p:Int):(Ieee.Datum.number s m p).toInt .zero=some (truncF s m p):=by
 show some (Ieee.signed s (Ieee.Toward.cut .zero s (m<<<p.toNat) (-p).toNat) 0)=_
 rw[signed_eq]
 unfold truncF Ieee.Toward.cut
 simp only[Nat.shiftLeft_eq,Nat.one_mul,Bool.toNat_false,Nat.add_zero,Int.pow_zero,Int.mul_one,Option.some.injEq]
 congr 1
 rcases Nat.le_total (-p).toNat ((m*2^p.toNat).log2+2) with h|h
 ·rw[Nat.min_eq_left h]
 ·rw[Nat.min_eq_right h]
  have hl:m*2^p.toNat<2^((m*2^p.toNat).log2+1):=Nat.lt_log2_self
  rw[Nat.div_eq_of_lt (Nat.lt_of_lt_of_le hl (Nat.pow_le_pow_right (by decide) (by omega))),Nat.div_eq_of_lt (Nat.lt_of_lt_of_le hl (Nat.pow_le_pow_right (by decide) (by omega)))]
theorem big_worth {s:Bool} {m:Nat} {p:Int} (hm:m<9007199254740992) (hp: -1074≤p) (h: ¬(-9223372036854775808*(KN:Int)≤smag s m*2^(p+1074).toNat∧smag s m*2^(p+1074).toNat<9223372036854775808*(KN:Int))):
 11≤p∧truncF s m p=smag s m*2^p.toNat∧sml (truncF s m p)=false:=by
 have hK:=KI_pos
 have hp11:11≤p:=by
  rcases Int.lt_or_le p 11 with hlt|hge
  ·exfalso
   apply h
   have h1:(2:Int)^(p+1074).toNat≤1024*(KN:Int):=by
    have h2:(2:Nat)^(p+1074).toNat≤2^(10+KE):=Nat.pow_le_pow_right (by decide) (by have:=KE_eq;omega)
    rw[Nat.pow_add] at h2
    have h3:(2:Nat)^10*2^KE=1024*KN:=by unfold KN;rw[show(2:Nat)^10=1024 from rfl]
    rw[h3] at h2
    have h4:(((2:Nat)^(p+1074).toNat:Nat):Int)≤((1024*KN:Nat):Int):=Int.ofNat_le.2 h2
    rw[Int.natCast_pow,Int.natCast_mul] at h4
    exact h4
   have h0:(0:Int)<2^(p+1074).toNat:=Int.pow_pos (by decide)
   have h3:(m:Int)*2^(p+1074).toNat≤m*(1024*(KN:Int)):=Int.mul_le_mul_of_nonneg_left h1 (by omega)
   have h4:(m:Int)*(1024*(KN:Int))≤9007199254740991*(1024*(KN:Int)):=Int.mul_le_mul_of_nonneg_right (by omega) (by omega)
   have h5:(0:Int)≤m*2^(p+1074).toNat:=Int.mul_nonneg (by omega) (by omega)
   clear h
   unfold smag
   cases s
   ·simp only[Bool.false_eq_true,if_false]
    generalize (KN:Int)=K at*
    generalize (m:Int)*2^(p+1074).toNat=X at*
    omega
   ·simp only[if_true,Int.neg_mul]
    generalize (KN:Int)=K at*
    generalize (m:Int)*2^(p+1074).toNat=X at*
    omega
  ·exact hge
 have ht:truncF s m p=smag s m*2^p.toNat:=by
  unfold truncF
  rw[show(-p).toNat=0 by omega,Nat.pow_zero,Nat.div_one]
  unfold smag
  cases s
  ·simp
  ·simp[Int.neg_mul]
 refine⟨hp11,ht,?_⟩
 rw[ht]
 rw[K_shift p (by omega),←Int.mul_assoc] at h
 generalize smag s m*2^p.toNat=x at h
 unfold sml
 simp only[decide_eq_false_iff_not]
 intro hx
 apply h
 constructor
 ·exact Int.mul_le_mul_of_nonneg_right (by omega) (Int.le_of_lt hK)
 ·exact Int.mul_lt_mul_of_pos_right (by omega) hK
set_option maxRecDepth 100000 in
set_option maxHeartbeats 1000000 in
theorem cleanDict_c (m:Nat) (hm8:m≤8) (d d':Int) (hdd:d-1=d') (hw:IntKind.i64.wrap d'=d') (x:VT) (A2:Option Addr) (c2:Nat) (A5:Option Addr) (n5 c5:Nat) (w:World) (h:RawN (m+1) w x A2 c2 A5 n5 c5)
 (ih: ∀(x:VT) (A2:Option Addr) (c2:Nat) (A5:Option Addr) (n5 c5:Nat) (w:World),RawN m w x A2 c2 A5 n5 c5→Calls Tryz.prog 9 #[.agg (six5 x A2 c2 A5 n5 c5), .int .i64 d'] w (CleanN m w)):
 Calls Tryz.prog 25 #[.agg (six5 x A2 c2 A5 n5 c5), .int .i64 d] w (CleanN (m+1) w):=by
 obtain⟨a0,a1,a2,a3,a4,a5⟩:=x
 dsimp only[six5] at*
 have HKM:=Lib.hid h.2.2
 have hn5:n5≤9223372036854775807:=h.2.1
 have HIH:=Lib.hid ih
 obtain⟨F,hF⟩: ∃F:Nat→Prop,F=fun j=>w.heap.size+3≤j:=⟨_,rfl⟩
 have hF1: ∀j,F j→Free w.heap.size j:=by rw[hF];intro j h;exact Or.inr h
 have hF2: ∀j,w.heap.size+3≤j→F j:=by rw[hF];intro j h;exact h
 have hdw:IntKind.i64.wrap (d-1)=d':=by rw[hdd];exact hw
 obtain⟨W0,hW0⟩: ∃W,W=(((w.alloc (.cells #[.int .i64 a0, .bool a1, .slice A2 a2.length c2, .int .u64 a3, .string a4, .slice A5 n5 c5] 26)).alloc (.cells zero6 26)).alloc (.cells #[.int .i64 8, .bool false, .slice none 0 0, .int .u64 0, .string ⟨#[]⟩, .slice none 0 0] 26)):=⟨_,rfl⟩
 have HT0:Hid (CB w w.heap.size F #[.int .i64 a0, .bool a1, .slice A2 a2.length c2, .int .u64 a3, .string a4, .slice A5 n5 c5] 8 (.slice none 0 0) [] W0):=by rw[hW0];exact Lib.hid (CB.start w w.heap.size F _ 8 hF1 hF2)
 clear hF hF1 hF2 h ih
 go_enter Tryz.func25,Tryz.ntmps25
 go_wp2_with fail
 rw[←hW0]
 clear hW0
 go_loopw [6] (fun i wr=> ∃(j:Nat) (out:Value) (ys:List VT),j≤n5∧j≤16∧i= .int .i64 (j:Int)∧Hid (j%2=0)∧ys.length≤j∧Hid (Pairs m ys)∧Hid (CB w w.heap.size F #[.int .i64 a0, .bool a1, .slice A2 a2.length c2, .int .u64 a3, .string a4, .slice A5 n5 c5] 8 out ys wr)) (fun i _=>16-(intOf i).toNat)
 case atStart=>exact⟨0,_,[],Nat.zero_le _,by omega,rfl,Lib.hid rfl,Nat.le_refl _,Lib.hid (Pairs.nil m),HT0⟩
 case round=>
  clear HT0
  obtain⟨j,out,ys,hj,hj8,rfl,HE,hys,HQ,HT⟩:=hrel
  by_cases hlt:j+1<n5∧j<16
  ·obtain⟨hl1,hl2⟩:=hlt
   have hl0:j<n5:=by omega
   have hl3:(j:Int)<16:=by omega
   have hl4:(j:Int)+1<n5:=by omega
   obtain⟨b,o,y,P2,p2,P5,m5,p5,rfl,hb,k0,k1,k2,k3,k4,k5,hV⟩:=HKM.out j hl0
   have hB:=HT.out.low
   have x0:=(hB.cell (p:=⟨b,o+j*6,none⟩) hb).trans k0
   have x1:=(hB.cell (p:=⟨b,o+j*6+1,none⟩) hb).trans k1
   have x2:=(hB.cell (p:=⟨b,o+j*6+2,none⟩) hb).trans k2
   have x3:=(hB.cell (p:=⟨b,o+j*6+3,none⟩) hb).trans k3
   have x4:=(hB.cell (p:=⟨b,o+j*6+4,none⟩) hb).trans k4
   have x5:=(hB.cell (p:=⟨b,o+j*6+5,none⟩) hb).trans k5
   have z5:=(cells6 HT.out.b1).2.2.2.2.2
   have hsz3:=HT.out.size
   have hsz:w.heap.size+2≤wr.heap.size:=by omega
   have hlow:w.heap.size≤wr.heap.size:=by omega
   have HC:Hid (Calls Tryz.prog 9 #[.agg (six5 y P2 p2 P5 m5 p5), .int .i64 d'] wr (CleanN m wr)):=Lib.hid (HIH.out y P2 p2 P5 m5 p5 wr (hV.below hB))
   obtain⟨Ao,co,rfl,hlo,_⟩:=Kd.R_reads HT.out.row
   clear k0 k1 k2 k3 k4 k5 hV hB
   go_upto_region 6 with(first
    |(go_at_call 9;(with_reducible refine HC.out.mono ?_);rintro e w1 ⟨cs1,y1,rfl,hM,hct,hb1⟩;obtain⟨Q2,q2,Q5,q5,rfl⟩:=m_shape hM;have HM1:=Lib.hid hM;have HCT:=Lib.hid hct;have HB1:=Lib.hid hb1;clear hM hct hb1)
    |(go_at_call 52;(with_reducible refine(key_c m wr.heap.size (fun _=>True) y1 _ w1 HB1.out.size HM1.out HCT.out).mono ?_);rintro e w2 ⟨cs2,y2,rfl,hM,hct,hhk,hb2⟩;obtain⟨R2,r2,R5,r5,rfl⟩:=m_shape hM;have HM2:=Lib.hid hM;have HK2:=Lib.hid (And.intro hct hhk);have HB2:=Lib.hid (HB1.out.trans (hb2.mono HB1.out.size));clear hM hct hhk hb2))
   clear x0 x1 x2 x3 x4 x5
   obtain⟨W3,hW3⟩: ∃W,W=w2.alloc (.cells (List.toArray [.int .i64 y2.f0, .bool y2.f1, .slice R2 y2.f2.length r2, .int .u64 y2.f3, .string y2.f4, .slice R5 y2.f5.length r5]) 26):=⟨_,rfl⟩
   have HB3:Hid (Below wr.heap.size wr W3):=by rw[hW3];exact Lib.hid (HB2.out.alloc HB2.out.size _)
   have HN3:Hid (W3.heap[w2.heap.size]?=some (.cells (List.toArray [.int .i64 y2.f0, .bool y2.f1, .slice R2 y2.f2.length r2, .int .u64 y2.f3, .string y2.f4, .slice R5 y2.f5.length r5]) 26 (0,0))):=by rw[hW3];exact Lib.hid (blk_new _ _)
   have HM3:Hid (kV.M W3 wr.heap.size (fun _=>True) y2 [.int .i64 y2.f0, .bool y2.f1, .slice R2 y2.f2.length r2, .int .u64 y2.f3, .string y2.f4, .slice R5 y2.f5.length r5]):=by rw[hW3];exact Lib.hid (Kd.M_below (Kd.M_mono _ (fun _ _=>trivial) HM2.out) ((Below.refl _ _).alloc (Nat.le_refl _) _))
   rw[←hW3]
   clear hW3
   have HT3:=Lib.hid (HT.out.below HB3.out)
   obtain⟨x0,x1,x2,x3,x4,x5⟩:=cells6 HT3.out.b3
   obtain⟨q0,q1,q2',q3,q4,q5'⟩:=cells6 HN3.out
   have HFC:Hid (Calls Tryz.prog 53 #[.slice Ao ys.length co, .int .i64 2, .agg (List.toArray [.int .i64 y2.f0, .bool y2.f1, .slice R2 y2.f2.length r2, .int .u64 y2.f3, .string y2.f4, .slice R5 y2.f5.length r5])] W3 fun e w'=>e= .returned (.int .i64 (findR EQ ys 2 y2))∧Below W3.heap.size W3 w'):=Lib.hid (by
    obtain⟨A',c',e',_,hC'⟩:=Kd.R_reads HT3.out.row
    cases e'
    exact findKids_c m hm8 Ao co ys y2 _ 2 W3 hC' ⟨_,rfl,kV.K_of_M HM3.out⟩ (by omega) (by decide) HQ.out.ct HK2.out.1)
   obtain⟨r,hr⟩: ∃r,findR EQ ys 2 y2=r:=⟨_,rfl⟩
   have HLT:=Lib.hid (fun h=>findR_lt (r:=r) (by decide) hr h)
   rw[hr] at HFC
   clear hr
   by_cases hneg:r<0
   ·go_upto_region 7 with(first|(go_at_call 53;(with_reducible refine HFC.out.mono ?_);rintro e w4 ⟨rfl,hb4⟩;have HB4:=Lib.hid (HB3.out.trans (hb4.mono HB3.out.size));have HN4:=Lib.hid (blk_below HN3.out hb4);have HM4:=Lib.hid (Kd.M_below HM3.out hb4);have HT4:=Lib.hid (HT3.out.below hb4);clear hb4))
    clear x0 x1 x2 x3 x4 x5 q0 q1 q2' q3 q4 q5'
    obtain⟨j1,hj1⟩: ∃j1,j1=j+1:=⟨_,rfl⟩
    obtain⟨b1,o1,z,S2,s2,S5,l5,s5,es,hb',k0,k1,k2,k3,k4,k5,hV⟩:=HKM.out j1 (by omega)
    obtain⟨rfl,rfl⟩:b=b1∧o=o1:=by cases es;exact⟨rfl,rfl⟩
    have hB:=HT4.out.low
    have x0:=(hB.cell (p:=⟨b,o+j1*6,none⟩) hb').trans k0
    have x1:=(hB.cell (p:=⟨b,o+j1*6+1,none⟩) hb').trans k1
    have x2:=(hB.cell (p:=⟨b,o+j1*6+2,none⟩) hb').trans k2
    have x3:=(hB.cell (p:=⟨b,o+j1*6+3,none⟩) hb').trans k3
    have x4:=(hB.cell (p:=⟨b,o+j1*6+4,none⟩) hb').trans k4
    have x5:=(hB.cell (p:=⟨b,o+j1*6+5,none⟩) hb').trans k5
    have z5':=(cells6 HT4.out.b1).2.2.2.2.2
    have t50:=(cells6 HT4.out.b3).2.2.2.2.2
    have hsz4:w.heap.size+2≤w4.heap.size:=by have:=HT4.out.size;omega
    have HC2:Hid (Calls Tryz.prog 9 #[.agg (six5 z S2 s2 S5 l5 s5), .int .i64 d'] w4.drew (CleanN m w4.drew)):=Lib.hid (HIH.out z S2 s2 S5 l5 s5 w4.drew (hV.below hB.drew))
    have HBr:Hid (Below (w.heap.size+2) w4 w4):=Lib.hid (Below.refl _ _)
    have hkb:wr.heap.size≤w2.heap.size:=HB2.out.size
    have hkne:w2.heap.size≠w.heap.size+2:=by omega
    have HNE:Hid (some w2.heap.size≠(Value.slice Ao ys.length co).ownBlock):=Lib.hid (fun e=>by
     obtain⟨inner,ho⟩:=Kd.R_own HT.out.row
     have:=own_lt ho _ e.symm
     omega)
    have HS:Hid (∀W,Below (w.heap.size+2) w4 W→W.heap[w2.heap.size]?=some (.cells (List.toArray [.int .i64 y2.f0, .bool y2.f1, .slice R2 y2.f2.length r2, .int .u64 y2.f3, .string y2.f4, .slice R5 y2.f5.length r5]) 26 (0,0))→(W.cell? ⟨b,o+j1*6,none⟩=some (.int .i64 z.f0)∧W.cell? ⟨b,o+j1*6+1,none⟩=some (.bool z.f1)∧W.cell? ⟨b,o+j1*6+2,none⟩=some (.slice S2 z.f2.length s2)∧W.cell? ⟨b,o+j1*6+3,none⟩=some (.int .u64 z.f3)∧W.cell? ⟨b,o+j1*6+4,none⟩=some (.string z.f4)∧W.cell? ⟨b,o+j1*6+5,none⟩=some (.slice S5 l5 s5))∧(W.cell? ⟨w2.heap.size,0,none⟩=some (.int .i64 y2.f0)∧W.cell? ⟨w2.heap.size,1,none⟩=some (.bool y2.f1)∧W.cell? ⟨w2.heap.size,2,none⟩=some (.slice R2 y2.f2.length r2)∧W.cell? ⟨w2.heap.size,3,none⟩=some (.int .u64 y2.f3)∧W.cell? ⟨w2.heap.size,4,none⟩=some (.string y2.f4)∧W.cell? ⟨w2.heap.size,5,none⟩=some (.slice R5 y2.f5.length r5))∧W.cell? ⟨w.heap.size,5,none⟩=some (.slice (some ⟨b,o,none⟩) n5 c5)):=Lib.hid fun W hW hN=>by
     have hb2:b<w.heap.size+2:=by omega
     exact⟨⟨(hW.cell (p:=⟨b,o+j1*6,none⟩) hb2).trans x0,(hW.cell (p:=⟨b,o+j1*6+1,none⟩) hb2).trans x1,(hW.cell (p:=⟨b,o+j1*6+2,none⟩) hb2).trans x2,(hW.cell (p:=⟨b,o+j1*6+3,none⟩) hb2).trans x3,(hW.cell (p:=⟨b,o+j1*6+4,none⟩) hb2).trans x4,(hW.cell (p:=⟨b,o+j1*6+5,none⟩) hb2).trans x5⟩,cells6 hN,(hW.cell (p:=⟨w.heap.size,5,none⟩) (by show w.heap.size<_;omega)).trans z5'⟩
    have HJ:=Lib.hid hj1
    have e1:(j:Int)+1=(j1:Int):=by omega
    have e3:IntKind.i64.wrap (j1:Int)=(j1:Int):=IntWalk.i64_in _ (by omega)
    have e5:IntKind.i64.wrap ((j:Int)+1)=(j1:Int):=by rw[e1];exact e3
    have hjx:j1<n5:=by omega
    clear k0 k1 k2 k3 k4 k5 hV hB x0 x1 x2 x3 x4 x5 z5 z5' hj1 es
    refine wp_region_held_drew (S:=fun W=>(W.cell? ⟨b,o+j1*6,none⟩=some (.int .i64 z.f0)∧W.cell? ⟨b,o+j1*6+1,none⟩=some (.bool z.f1)∧W.cell? ⟨b,o+j1*6+2,none⟩=some (.slice S2 z.f2.length s2)∧W.cell? ⟨b,o+j1*6+3,none⟩=some (.int .u64 z.f3)∧W.cell? ⟨b,o+j1*6+4,none⟩=some (.string z.f4)∧W.cell? ⟨b,o+j1*6+5,none⟩=some (.slice S5 l5 s5))∧(W.cell? ⟨w2.heap.size,0,none⟩=some (.int .i64 y2.f0)∧W.cell? ⟨w2.heap.size,1,none⟩=some (.bool y2.f1)∧W.cell? ⟨w2.heap.size,2,none⟩=some (.slice R2 y2.f2.length r2)∧W.cell? ⟨w2.heap.size,3,none⟩=some (.int .u64 y2.f3)∧W.cell? ⟨w2.heap.size,4,none⟩=some (.string y2.f4)∧W.cell? ⟨w2.heap.size,5,none⟩=some (.slice R5 y2.f5.length r5))∧W.cell? ⟨w.heap.size,5,none⟩=some (.slice (some ⟨b,o,none⟩) n5 c5)) (by kernel_rfl) (HS.out _ HBr.out.drew (blk_drew HN4.out)) (fun hHeld=>?_)
    refine wpAnyH_take (i:=0) (oi:=_) (v:=?_) rfl (by kernel_rfl) (by kernel_rfl) (by kernel_rfl) (fun _ _ _ h=>h) (Or.inl ⟨by rfl,?_⟩) (by assumption) ?_;rotate_left 1;·(intro w hSw;(try dsimp only at hSw);go_simp;first|done|with_reducible rfl)
    try simp only[Act.put,List.setIfInBounds_toArray,List.set_cons_zero,List.set_cons_succ,List.getElem_toArray,List.getElem_cons_zero,List.getElem_cons_succ]
    refine wpAnyH_take (i:=2) (oi:=_) (v:=?_) rfl (by kernel_rfl) (by kernel_rfl) (by kernel_rfl) (fun _ _ _ h=>h) (Or.inl ⟨by rfl,?_⟩) (by assumption) ?_;rotate_left 1;·(intro w hSw;(try dsimp only at hSw);go_simp;first|done|with_reducible rfl)
    try simp only[Act.put,List.setIfInBounds_toArray,List.set_cons_zero,List.set_cons_succ,List.getElem_toArray,List.getElem_cons_zero,List.getElem_cons_succ]
    refine wpAnyH_take (i:=3) (oi:=_) (v:=?_) rfl (by kernel_rfl) (by kernel_rfl) (by kernel_rfl) (fun _ _ _ h=>h) (Or.inl ⟨by rfl,?_⟩) (by assumption) ?_;rotate_left 1;·(intro w hSw;(try dsimp only at hSw);go_simp;first|done|with_reducible rfl)
    try simp only[Act.put,List.setIfInBounds_toArray,List.set_cons_zero,List.set_cons_succ,List.getElem_toArray,List.getElem_cons_zero,List.getElem_cons_succ]
    refine wpAnyH_take (i:=4) (oi:=_) (v:=?_) rfl (by kernel_rfl) (by kernel_rfl) (by kernel_rfl) (fun _ _ _ h=>h) (Or.inl ⟨by rfl,?_⟩) (by assumption) ?_;rotate_left 1;·(intro w hSw;(try dsimp only at hSw);go_simp;first|done|with_reducible rfl)
    try simp only[Act.put,List.setIfInBounds_toArray,List.set_cons_zero,List.set_cons_succ,List.getElem_toArray,List.getElem_cons_zero,List.getElem_cons_succ]
    refine wpAnyH_take (i:=5) (oi:=_) (v:=?_) rfl (by kernel_rfl) (by kernel_rfl) (by kernel_rfl) (fun _ _ _ h=>h) (Or.inl ⟨by rfl,?_⟩) (by assumption) ?_;rotate_left 1;·(intro w hSw;(try dsimp only at hSw);go_simp;first|done|with_reducible rfl)
    try simp only[Act.put,List.setIfInBounds_toArray,List.set_cons_zero,List.set_cons_succ,List.getElem_toArray,List.getElem_cons_zero,List.getElem_cons_succ]
    refine wpAnyH_take (i:=6) (oi:=_) (v:=?_) rfl (by kernel_rfl) (by kernel_rfl) (by kernel_rfl) (fun _ _ _ h=>h) (Or.inl ⟨by rfl,?_⟩) (by assumption) ?_;rotate_left 1;·(intro w hSw;(try dsimp only at hSw);go_simp;first|done|with_reducible rfl)
    try simp only[Act.put,List.setIfInBounds_toArray,List.set_cons_zero,List.set_cons_succ,List.getElem_toArray,List.getElem_cons_zero,List.getElem_cons_succ]
    refine wpAnyH_take (i:=7) (oi:=_) (v:=?_) rfl (by kernel_rfl) (by kernel_rfl) (by kernel_rfl) (fun _ _ _ h=>h) (Or.inl ⟨by rfl,?_⟩) (by assumption) ?_;rotate_left 1;·(intro w hSw;(try dsimp only at hSw);go_simp;first|done|with_reducible rfl)
    try simp only[Act.put,List.setIfInBounds_toArray,List.set_cons_zero,List.set_cons_succ,List.getElem_toArray,List.getElem_cons_zero,List.getElem_cons_succ]
    refine wpAnyH_take (i:=8) (oi:=_) (v:=?_) rfl (by kernel_rfl) (by kernel_rfl) (by kernel_rfl) (fun _ _ _ h=>h) (Or.inl ⟨by rfl,?_⟩) (by assumption) ?_;rotate_left 1;·(intro w hSw;(try dsimp only at hSw);go_simp;first|done|with_reducible rfl)
    try simp only[Act.put,List.setIfInBounds_toArray,List.set_cons_zero,List.set_cons_succ,List.getElem_toArray,List.getElem_cons_zero,List.getElem_cons_succ]
    refine wpAnyH_take (i:=9) (oi:=_) (v:=?_) rfl (by kernel_rfl) (by kernel_rfl) (by kernel_rfl) (fun _ _ _ h=>h) (Or.inl ⟨by rfl,?_⟩) (by assumption) ?_;rotate_left 1;·(intro w hSw;(try dsimp only at hSw);go_simp;first|done|with_reducible rfl)
    try simp only[Act.put,List.setIfInBounds_toArray,List.set_cons_zero,List.set_cons_succ,List.getElem_toArray,List.getElem_cons_zero,List.getElem_cons_succ]
    refine wpAnyH_take (i:=10) (oi:=_) (v:=?_) rfl (by kernel_rfl) (by kernel_rfl) (by kernel_rfl) (fun _ _ _ h=>h) (Or.inl ⟨by rfl,?_⟩) (by assumption) ?_;rotate_left 1;·(intro w hSw;(try dsimp only at hSw);go_simp;first|done|with_reducible rfl)
    try simp only[Act.put,List.setIfInBounds_toArray,List.set_cons_zero,List.set_cons_succ,List.getElem_toArray,List.getElem_cons_zero,List.getElem_cons_succ]
    refine wpAnyH_ready (rs:=[1,11]) (by kernel_rfl) (by simp) ?_
    refine AllReadyH.cons (o:=_) rfl (fun K hK=>?_) (AllReadyH.cons (o:=_) rfl (fun K hK=>?_) AllReadyH.nil)
    ·go_simp
     refine hK.out _ _ (HS.out _ HBr.out.drew (blk_drew HN4.out)) (fun hHeld=>?_)
     clear hK K
     try simp only[Act.put,List.setIfInBounds_toArray,List.set_cons_zero,List.set_cons_succ,List.getElem_toArray,List.getElem_cons_zero,List.getElem_cons_succ]
     refine wpAnyH_ready (rs:=[11]) (by kernel_rfl) (by simp) ?_
     refine AllReadyH.cons (o:=_) rfl (fun K hK=>?_) AllReadyH.nil
     go_simp;go_at_call 9;(with_reducible refine HC2.out.mono ?_);rintro e w5 ⟨cs5,y5,rfl,hM,hct,hb1⟩;obtain⟨U2,u2,U5,u5,rfl⟩:=m_shape hM;have HB5:=Lib.hid (HBr.out.drew.trans (hb1.mono hsz4));have HN5:=Lib.hid (blk_below (blk_drew HN4.out) hb1);have HMK:=Lib.hid (Kd.M_below (w1:=w5) (show kV.M w4.drew wr.heap.size (fun _=>True) y2 [.int .i64 y2.f0, .bool y2.f1, .slice R2 y2.f2.length r2, .int .u64 y2.f3, .string y2.f4, .slice R5 y2.f5.length r5] from Kd.M_below HM4.out ((Below.refl _ _).drew)) hb1);have HMV:=Lib.hid (Kd.M_lower _ (show wr.heap.size≤w4.drew.heap.size from HB4.out.size) hM);have HBC:=Lib.hid (HB4.out.drew.trans (hb1.mono HB4.out.size));have HT5:=Lib.hid (HT4.out.drewed.below hb1);have HCT5:=Lib.hid hct;have t5:=(cells6 HT5.out.b3).2.2.2.2.2;have tA: ∀o,(w5.alloc o).cell? ⟨w.heap.size+2,5,none⟩=some (.slice Ao ys.length co):=fun o=>(cells6 (blk_alloc HT5.out.b3 o)).2.2.2.2.2;clear hM hct hb1
     refine hK.out _ _ (HS.out _ HB5.out HN5.out) (fun hHeld=>?_)
     clear hK K
     try simp only[Act.put,List.setIfInBounds_toArray,List.set_cons_zero,List.set_cons_succ,List.getElem_toArray,List.getElem_cons_zero,List.getElem_cons_succ]
     refine wpAnyH_ready (rs:=[12]) (by kernel_rfl) (by simp) ?_
     refine AllReadyH.cons (o:=_) rfl (fun K hK=>?_) AllReadyH.nil
     go_simp
     refine hK.out _ _ (HS.out _ (HB5.out.alloc (Nat.le_trans hsz4 HB5.out.size) _) (blk_alloc HN5.out _)) (fun hHeld=>?_)
     clear hK K
     try simp only[Act.put,List.setIfInBounds_toArray,List.set_cons_zero,List.set_cons_succ,List.getElem_toArray,List.getElem_cons_zero,List.getElem_cons_succ]
     refine wpAnyH_ready (rs:=[13]) (by kernel_rfl) (by simp) ?_
     refine AllReadyH.cons (o:=_) rfl (fun K hK=>?_) AllReadyH.nil
     have HTR:=Lib.hid (two_rows (kidM_new HMK.out hlow) (kidM_new HMV.out hlow));have HVA:=Lib.hid (HT.out.app (okk:=fun _=>False) (w1:=(w5.alloc (.cells (([.int .i64 y2.f0, .bool y2.f1, .slice R2 y2.f2.length r2, .int .u64 y2.f3, .string y2.f4, .slice R5 y2.f5.length r5]:List Value)++([.int .i64 y5.f0, .bool y5.f1, .slice U2 y5.f2.length u2, .int .u64 y5.f3, .string y5.f4, .slice U5 y5.f5.length u5]:List Value)).toArray 26))) (HBC.out.alloc HBC.out.size _) (kidM_new (Kd.M_below HMK.out ((Below.refl _ _).alloc (Nat.le_refl _) _)) hlow) (fun _ h=>h.elim) (Nat.le_refl _));have HNA:Hid ((w5.alloc (.cells (([.int .i64 y2.f0, .bool y2.f1, .slice R2 y2.f2.length r2, .int .u64 y2.f3, .string y2.f4, .slice R5 y2.f5.length r5]:List Value)++([.int .i64 y5.f0, .bool y5.f1, .slice U2 y5.f2.length u2, .int .u64 y5.f3, .string y5.f4, .slice U5 y5.f5.length u5]:List Value)).toArray 26)).heap[w2.heap.size]?=some (.cells (List.toArray [.int .i64 y2.f0, .bool y2.f1, .slice R2 y2.f2.length r2, .int .u64 y2.f3, .string y2.f4, .slice R5 y2.f5.length r5]) 26 (0,0))):=Lib.hid (blk_alloc HN5.out _);have HBA:Hid (Below (w.heap.size+2) w4 (w5.alloc (.cells (([.int .i64 y2.f0, .bool y2.f1, .slice R2 y2.f2.length r2, .int .u64 y2.f3, .string y2.f4, .slice R5 y2.f5.length r5]:List Value)++([.int .i64 y5.f0, .bool y5.f1, .slice U2 y5.f2.length u2, .int .u64 y5.f3, .string y5.f4, .slice U5 y5.f5.length u5]:List Value)).toArray 26))):=Lib.hid (HB5.out.alloc (Nat.le_trans hsz4 HB5.out.size) _)
     refine Kd.R_append_rows_step kV (w0:=(w5.alloc (.cells (([.int .i64 y2.f0, .bool y2.f1, .slice R2 y2.f2.length r2, .int .u64 y2.f3, .string y2.f4, .slice R5 y2.f5.length r5]:List Value)++([.int .i64 y5.f0, .bool y5.f1, .slice U2 y5.f2.length u2, .int .u64 y5.f3, .string y5.f4, .slice U5 y5.f5.length u5]:List Value)).toArray 26))) w.heap.size rfl (.tmp 36) (.tmp 47) 24 26 (.agg zero6) 88 rfl Tryz.underlying24 vInfo rfl (by decide) (by omega) (.slice Ao ys.length co) ys [y2,y5] _ 2 2 F _ rfl rfl HVA.out.2.2.2.1 HTR.out (fun _ _ h=>h) HVA.out.2.1 HVA.out.2.2.1 HVA.out.2.2.2.2.1 HVA.out.2.2.2.2.2.1 (by omega) ?_;intro v1 w6 hr2 hb2 hg hat;obtain⟨Av,cv,rfl⟩:=Kd.R_slice hr2;have HP:=Lib.hid (HVA.out.2.2.2.2.2.2.push hr2 hg hat);have hz2:=HVA.out.2.2.2.2.2.2.third hg;have HB6:=Lib.hid (HVA.out.2.2.2.2.2.2.keeps hg HBA.out);have HN6:=Lib.hid (blk_grown HNA.out hg HNE.out);have u5':=(cells6 hz2).2.2.2.2.2;have uz:=blk_free hz2;clear hr2 hb2 hg hat hz2
     refine hK.out _ _ (HS.out _ HB6.out HN6.out) (fun hHeld=>?_)
     clear hK K
     try simp only[Act.put,List.setIfInBounds_toArray,List.set_cons_zero,List.set_cons_succ,List.getElem_toArray,List.getElem_cons_zero,List.getElem_cons_succ]
     refine wpAnyH_take (i:=14) (oi:=_) (v:=?_) rfl (by kernel_rfl) (by kernel_rfl) (by kernel_rfl) (fun _ _ _ h=>h) (Or.inl ⟨by rfl,?_⟩) (by assumption) ?_;rotate_left 1;·(intro w hSw;(try dsimp only at hSw);go_simp;first|done|with_reducible rfl)
     try simp only[Act.put,List.setIfInBounds_toArray,List.set_cons_zero,List.set_cons_succ,List.getElem_toArray,List.getElem_cons_zero,List.getElem_cons_succ]
     refine wpAnyH_ready (rs:=[15]) (by kernel_rfl) (by simp) ?_
     refine AllReadyH.cons (o:=_) rfl (fun K hK=>?_) AllReadyH.nil
     go_simp
     refine hK.out _ _ (HS.out _ (HB6.out.setCell (p:=⟨w.heap.size+2,5,none⟩) (Nat.le_refl _) _) (blk_far HN6.out hkne _)) (fun hHeld=>?_)
     clear hK K
     try simp only[Act.put,List.setIfInBounds_toArray,List.set_cons_zero,List.set_cons_succ,List.getElem_toArray,List.getElem_cons_zero,List.getElem_cons_succ]
     refine wpAnyH_done (by kernel_rfl) ?_ _
     go_wp2
     go_roundw
     case rel=>exact⟨j+2,_,ys++[y2,y5],by omega,by have:=HE.out;omega,by go_num,Lib.hid (by have:=HE.out;omega),by simp;omega,Lib.hid (HQ.out.push HK2.out.1 HK2.out.2 HCT5.out (HLT.out hneg)),Lib.hid (cb_len HP.out (by simp))⟩
     case measure=>simp[intOf];omega
    ·go_simp;go_at_call 9;(with_reducible refine HC2.out.mono ?_);rintro e w5 ⟨cs5,y5,rfl,hM,hct,hb1⟩;obtain⟨U2,u2,U5,u5,rfl⟩:=m_shape hM;have HB5:=Lib.hid (HBr.out.drew.trans (hb1.mono hsz4));have HN5:=Lib.hid (blk_below (blk_drew HN4.out) hb1);have HMK:=Lib.hid (Kd.M_below (w1:=w5) (show kV.M w4.drew wr.heap.size (fun _=>True) y2 [.int .i64 y2.f0, .bool y2.f1, .slice R2 y2.f2.length r2, .int .u64 y2.f3, .string y2.f4, .slice R5 y2.f5.length r5] from Kd.M_below HM4.out ((Below.refl _ _).drew)) hb1);have HMV:=Lib.hid (Kd.M_lower _ (show wr.heap.size≤w4.drew.heap.size from HB4.out.size) hM);have HBC:=Lib.hid (HB4.out.drew.trans (hb1.mono HB4.out.size));have HT5:=Lib.hid (HT4.out.drewed.below hb1);have HCT5:=Lib.hid hct;have t5:=(cells6 HT5.out.b3).2.2.2.2.2;have tA: ∀o,(w5.alloc o).cell? ⟨w.heap.size+2,5,none⟩=some (.slice Ao ys.length co):=fun o=>(cells6 (blk_alloc HT5.out.b3 o)).2.2.2.2.2;clear hM hct hb1
     refine hK.out _ _ (HS.out _ HB5.out HN5.out) (fun hHeld=>?_)
     clear hK K
     try simp only[Act.put,List.setIfInBounds_toArray,List.set_cons_zero,List.set_cons_succ,List.getElem_toArray,List.getElem_cons_zero,List.getElem_cons_succ]
     refine wpAnyH_ready (rs:=[1,12]) (by kernel_rfl) (by simp) ?_
     refine AllReadyH.cons (o:=_) rfl (fun K hK=>?_) (AllReadyH.cons (o:=_) rfl (fun K hK=>?_) AllReadyH.nil)
     ·go_simp
      refine hK.out _ _ (HS.out _ HB5.out HN5.out) (fun hHeld=>?_)
      clear hK K
      try simp only[Act.put,List.setIfInBounds_toArray,List.set_cons_zero,List.set_cons_succ,List.getElem_toArray,List.getElem_cons_zero,List.getElem_cons_succ]
      refine wpAnyH_ready (rs:=[12]) (by kernel_rfl) (by simp) ?_
      refine AllReadyH.cons (o:=_) rfl (fun K hK=>?_) AllReadyH.nil
      go_simp
      refine hK.out _ _ (HS.out _ (HB5.out.alloc (Nat.le_trans hsz4 HB5.out.size) _) (blk_alloc HN5.out _)) (fun hHeld=>?_)
      clear hK K
      try simp only[Act.put,List.setIfInBounds_toArray,List.set_cons_zero,List.set_cons_succ,List.getElem_toArray,List.getElem_cons_zero,List.getElem_cons_succ]
      refine wpAnyH_ready (rs:=[13]) (by kernel_rfl) (by simp) ?_
      refine AllReadyH.cons (o:=_) rfl (fun K hK=>?_) AllReadyH.nil
      have HTR:=Lib.hid (two_rows (kidM_new HMK.out hlow) (kidM_new HMV.out hlow));have HVA:=Lib.hid (HT.out.app (okk:=fun _=>False) (w1:=(w5.alloc (.cells (([.int .i64 y2.f0, .bool y2.f1, .slice R2 y2.f2.length r2, .int .u64 y2.f3, .string y2.f4, .slice R5 y2.f5.length r5]:List Value)++([.int .i64 y5.f0, .bool y5.f1, .slice U2 y5.f2.length u2, .int .u64 y5.f3, .string y5.f4, .slice U5 y5.f5.length u5]:List Value)).toArray 26))) (HBC.out.alloc HBC.out.size _) (kidM_new (Kd.M_below HMK.out ((Below.refl _ _).alloc (Nat.le_refl _) _)) hlow) (fun _ h=>h.elim) (Nat.le_refl _));have HNA:Hid ((w5.alloc (.cells (([.int .i64 y2.f0, .bool y2.f1, .slice R2 y2.f2.length r2, .int .u64 y2.f3, .string y2.f4, .slice R5 y2.f5.length r5]:List Value)++([.int .i64 y5.f0, .bool y5.f1, .slice U2 y5.f2.length u2, .int .u64 y5.f3, .string y5.f4, .slice U5 y5.f5.length u5]:List Value)).toArray 26)).heap[w2.heap.size]?=some (.cells (List.toArray [.int .i64 y2.f0, .bool y2.f1, .slice R2 y2.f2.length r2, .int .u64 y2.f3, .string y2.f4, .slice R5 y2.f5.length r5]) 26 (0,0))):=Lib.hid (blk_alloc HN5.out _);have HBA:Hid (Below (w.heap.size+2) w4 (w5.alloc (.cells (([.int .i64 y2.f0, .bool y2.f1, .slice R2 y2.f2.length r2, .int .u64 y2.f3, .string y2.f4, .slice R5 y2.f5.length r5]:List Value)++([.int .i64 y5.f0, .bool y5.f1, .slice U2 y5.f2.length u2, .int .u64 y5.f3, .string y5.f4, .slice U5 y5.f5.length u5]:List Value)).toArray 26))):=Lib.hid (HB5.out.alloc (Nat.le_trans hsz4 HB5.out.size) _)
      refine Kd.R_append_rows_step kV (w0:=(w5.alloc (.cells (([.int .i64 y2.f0, .bool y2.f1, .slice R2 y2.f2.length r2, .int .u64 y2.f3, .string y2.f4, .slice R5 y2.f5.length r5]:List Value)++([.int .i64 y5.f0, .bool y5.f1, .slice U2 y5.f2.length u2, .int .u64 y5.f3, .string y5.f4, .slice U5 y5.f5.length u5]:List Value)).toArray 26))) w.heap.size rfl (.tmp 36) (.tmp 47) 24 26 (.agg zero6) 88 rfl Tryz.underlying24 vInfo rfl (by decide) (by omega) (.slice Ao ys.length co) ys [y2,y5] _ 2 2 F _ rfl rfl HVA.out.2.2.2.1 HTR.out (fun _ _ h=>h) HVA.out.2.1 HVA.out.2.2.1 HVA.out.2.2.2.2.1 HVA.out.2.2.2.2.2.1 (by omega) ?_;intro v1 w6 hr2 hb2 hg hat;obtain⟨Av,cv,rfl⟩:=Kd.R_slice hr2;have HP:=Lib.hid (HVA.out.2.2.2.2.2.2.push hr2 hg hat);have hz2:=HVA.out.2.2.2.2.2.2.third hg;have HB6:=Lib.hid (HVA.out.2.2.2.2.2.2.keeps hg HBA.out);have HN6:=Lib.hid (blk_grown HNA.out hg HNE.out);have u5':=(cells6 hz2).2.2.2.2.2;have uz:=blk_free hz2;clear hr2 hb2 hg hat hz2
      refine hK.out _ _ (HS.out _ HB6.out HN6.out) (fun hHeld=>?_)
      clear hK K
      try simp only[Act.put,List.setIfInBounds_toArray,List.set_cons_zero,List.set_cons_succ,List.getElem_toArray,List.getElem_cons_zero,List.getElem_cons_succ]
      refine wpAnyH_take (i:=14) (oi:=_) (v:=?_) rfl (by kernel_rfl) (by kernel_rfl) (by kernel_rfl) (fun _ _ _ h=>h) (Or.inl ⟨by rfl,?_⟩) (by assumption) ?_;rotate_left 1;·(intro w hSw;(try dsimp only at hSw);go_simp;first|done|with_reducible rfl)
      try simp only[Act.put,List.setIfInBounds_toArray,List.set_cons_zero,List.set_cons_succ,List.getElem_toArray,List.getElem_cons_zero,List.getElem_cons_succ]
      refine wpAnyH_ready (rs:=[15]) (by kernel_rfl) (by simp) ?_
      refine AllReadyH.cons (o:=_) rfl (fun K hK=>?_) AllReadyH.nil
      go_simp
      refine hK.out _ _ (HS.out _ (HB6.out.setCell (p:=⟨w.heap.size+2,5,none⟩) (Nat.le_refl _) _) (blk_far HN6.out hkne _)) (fun hHeld=>?_)
      clear hK K
      try simp only[Act.put,List.setIfInBounds_toArray,List.set_cons_zero,List.set_cons_succ,List.getElem_toArray,List.getElem_cons_zero,List.getElem_cons_succ]
      refine wpAnyH_done (by kernel_rfl) ?_ _
      go_wp2
      go_roundw
      case rel=>exact⟨j+2,_,ys++[y2,y5],by omega,by have:=HE.out;omega,by go_num,Lib.hid (by have:=HE.out;omega),by simp;omega,Lib.hid (HQ.out.push HK2.out.1 HK2.out.2 HCT5.out (HLT.out hneg)),Lib.hid (cb_len HP.out (by simp))⟩
      case measure=>simp[intOf];omega
     ·go_simp
      refine hK.out _ _ (HS.out _ (HB5.out.alloc (Nat.le_trans hsz4 HB5.out.size) _) (blk_alloc HN5.out _)) (fun hHeld=>?_)
      clear hK K
      try simp only[Act.put,List.setIfInBounds_toArray,List.set_cons_zero,List.set_cons_succ,List.getElem_toArray,List.getElem_cons_zero,List.getElem_cons_succ]
      refine wpAnyH_ready (rs:=[1]) (by kernel_rfl) (by simp) ?_
      refine AllReadyH.cons (o:=_) rfl (fun K hK=>?_) AllReadyH.nil
      go_simp
      refine hK.out _ _ (HS.out _ (HB5.out.alloc (Nat.le_trans hsz4 HB5.out.size) _) (blk_alloc HN5.out _)) (fun hHeld=>?_)
      clear hK K
      try simp only[Act.put,List.setIfInBounds_toArray,List.set_cons_zero,List.set_cons_succ,List.getElem_toArray,List.getElem_cons_zero,List.getElem_cons_succ]
      refine wpAnyH_ready (rs:=[13]) (by kernel_rfl) (by simp) ?_
      refine AllReadyH.cons (o:=_) rfl (fun K hK=>?_) AllReadyH.nil
      have HTR:=Lib.hid (two_rows (kidM_new HMK.out hlow) (kidM_new HMV.out hlow));have HVA:=Lib.hid (HT.out.app (okk:=fun _=>False) (w1:=(w5.alloc (.cells (([.int .i64 y2.f0, .bool y2.f1, .slice R2 y2.f2.length r2, .int .u64 y2.f3, .string y2.f4, .slice R5 y2.f5.length r5]:List Value)++([.int .i64 y5.f0, .bool y5.f1, .slice U2 y5.f2.length u2, .int .u64 y5.f3, .string y5.f4, .slice U5 y5.f5.length u5]:List Value)).toArray 26))) (HBC.out.alloc HBC.out.size _) (kidM_new (Kd.M_below HMK.out ((Below.refl _ _).alloc (Nat.le_refl _) _)) hlow) (fun _ h=>h.elim) (Nat.le_refl _));have HNA:Hid ((w5.alloc (.cells (([.int .i64 y2.f0, .bool y2.f1, .slice R2 y2.f2.length r2, .int .u64 y2.f3, .string y2.f4, .slice R5 y2.f5.length r5]:List Value)++([.int .i64 y5.f0, .bool y5.f1, .slice U2 y5.f2.length u2, .int .u64 y5.f3, .string y5.f4, .slice U5 y5.f5.length u5]:List Value)).toArray 26)).heap[w2.heap.size]?=some (.cells (List.toArray [.int .i64 y2.f0, .bool y2.f1, .slice R2 y2.f2.length r2, .int .u64 y2.f3, .string y2.f4, .slice R5 y2.f5.length r5]) 26 (0,0))):=Lib.hid (blk_alloc HN5.out _);have HBA:Hid (Below (w.heap.size+2) w4 (w5.alloc (.cells (([.int .i64 y2.f0, .bool y2.f1, .slice R2 y2.f2.length r2, .int .u64 y2.f3, .string y2.f4, .slice R5 y2.f5.length r5]:List Value)++([.int .i64 y5.f0, .bool y5.f1, .slice U2 y5.f2.length u2, .int .u64 y5.f3, .string y5.f4, .slice U5 y5.f5.length u5]:List Value)).toArray 26))):=Lib.hid (HB5.out.alloc (Nat.le_trans hsz4 HB5.out.size) _)
      refine Kd.R_append_rows_step kV (w0:=(w5.alloc (.cells (([.int .i64 y2.f0, .bool y2.f1, .slice R2 y2.f2.length r2, .int .u64 y2.f3, .string y2.f4, .slice R5 y2.f5.length r5]:List Value)++([.int .i64 y5.f0, .bool y5.f1, .slice U2 y5.f2.length u2, .int .u64 y5.f3, .string y5.f4, .slice U5 y5.f5.length u5]:List Value)).toArray 26))) w.heap.size rfl (.tmp 36) (.tmp 47) 24 26 (.agg zero6) 88 rfl Tryz.underlying24 vInfo rfl (by decide) (by omega) (.slice Ao ys.length co) ys [y2,y5] _ 2 2 F _ rfl rfl HVA.out.2.2.2.1 HTR.out (fun _ _ h=>h) HVA.out.2.1 HVA.out.2.2.1 HVA.out.2.2.2.2.1 HVA.out.2.2.2.2.2.1 (by omega) ?_;intro v1 w6 hr2 hb2 hg hat;obtain⟨Av,cv,rfl⟩:=Kd.R_slice hr2;have HP:=Lib.hid (HVA.out.2.2.2.2.2.2.push hr2 hg hat);have hz2:=HVA.out.2.2.2.2.2.2.third hg;have HB6:=Lib.hid (HVA.out.2.2.2.2.2.2.keeps hg HBA.out);have HN6:=Lib.hid (blk_grown HNA.out hg HNE.out);have u5':=(cells6 hz2).2.2.2.2.2;have uz:=blk_free hz2;clear hr2 hb2 hg hat hz2
      refine hK.out _ _ (HS.out _ HB6.out HN6.out) (fun hHeld=>?_)
      clear hK K
      try simp only[Act.put,List.setIfInBounds_toArray,List.set_cons_zero,List.set_cons_succ,List.getElem_toArray,List.getElem_cons_zero,List.getElem_cons_succ]
      refine wpAnyH_take (i:=14) (oi:=_) (v:=?_) rfl (by kernel_rfl) (by kernel_rfl) (by kernel_rfl) (fun _ _ _ h=>h) (Or.inl ⟨by rfl,?_⟩) (by assumption) ?_;rotate_left 1;·(intro w hSw;(try dsimp only at hSw);go_simp;first|done|with_reducible rfl)
      try simp only[Act.put,List.setIfInBounds_toArray,List.set_cons_zero,List.set_cons_succ,List.getElem_toArray,List.getElem_cons_zero,List.getElem_cons_succ]
      refine wpAnyH_ready (rs:=[15]) (by kernel_rfl) (by simp) ?_
      refine AllReadyH.cons (o:=_) rfl (fun K hK=>?_) AllReadyH.nil
      go_simp
      refine hK.out _ _ (HS.out _ (HB6.out.setCell (p:=⟨w.heap.size+2,5,none⟩) (Nat.le_refl _) _) (blk_far HN6.out hkne _)) (fun hHeld=>?_)
      clear hK K
      try simp only[Act.put,List.setIfInBounds_toArray,List.set_cons_zero,List.set_cons_succ,List.getElem_toArray,List.getElem_cons_zero,List.getElem_cons_succ]
      refine wpAnyH_done (by kernel_rfl) ?_ _
      go_wp2
      go_roundw
      case rel=>exact⟨j+2,_,ys++[y2,y5],by omega,by have:=HE.out;omega,by go_num,Lib.hid (by have:=HE.out;omega),by simp;omega,Lib.hid (HQ.out.push HK2.out.1 HK2.out.2 HCT5.out (HLT.out hneg)),Lib.hid (cb_len HP.out (by simp))⟩
      case measure=>simp[intOf];omega
   ·go_wp2_with (first|(go_at_call 53;(with_reducible refine HFC.out.mono ?_);rintro e w4 ⟨rfl,hb4⟩;have HB4:=Lib.hid (HB3.out.trans (hb4.mono HB3.out.size));have HN4:=Lib.hid (blk_below HN3.out hb4);have HM4:=Lib.hid (Kd.M_below HM3.out hb4);have HT4:=Lib.hid (HT3.out.below hb4);clear hb4))
    go_roundw
    case rel=>exact⟨j+2,_,ys,by omega,by have:=HE.out;omega,by go_num,Lib.hid (by have:=HE.out;omega),by omega,HQ,HT4⟩
    case measure=>simp[intOf];omega
  ·obtain⟨Ao,Lo,co,rfl⟩: ∃A L c,out= .slice A L c:=by obtain⟨A,c,e⟩:=Kd.R_slice HT.out.row;exact⟨A,_,c,e⟩
   obtain⟨z0,z1,z2,z3,z4,z5⟩:=cells6 HT.out.b1
   obtain⟨y0,y1,y2,y3,y4,y5⟩:=cells6 HT.out.b2
   obtain⟨x0,x1,x2,x3,x4,x5⟩:=cells6 HT.out.b3
   have yz:=blk_free HT.out.b2
   by_cases hl1:j+1<n5
   all_goals
    have hl2: ¬((j:Int)+1<n5)∨ ¬((j:Int)<16):=by omega
    first
     |have hl3: ¬((j:Int)<16):=by omega
     |have hl4: ¬((j:Int)+1<n5):=by omega
    go_wp2
    refine bodyPost_ret (v:= .agg #[.int .i64 8, .bool false, .slice none 0 0, .int .u64 0, .string ⟨#[]⟩, .slice Ao Lo co]) (by simp[results,Tryz.results25,go_sem,y0,y1,y2,y3,y4,y5]) rfl ?_
    obtain⟨hM,hb⟩:=HT.out.final (.int .i64 8) (.bool false) (.slice none 0 0) (.int .u64 0) (.string ⟨#[]⟩) (.slice Ao Lo co)
    exact⟨_,⟨8,false,[],0,⟨#[]⟩,ys⟩,rfl,Kd.M_mono _ (fun q hq=>trivial) hM,Or.inr ⟨⟨rfl,rfl,rfl,rfl⟩,(by show ys.length≤16;omega),HQ.out.ct,Or.inr (Or.inr (Or.inl ⟨rfl,HQ.out.even,(by show ys.length≤16;omega),HQ.out.hk,HQ.out.dist⟩))⟩,hb⟩
theorem clean_box {n:Nat} {w W0 w1:World} {y:VT} {cs:List Value} {k:Int} (hW:Below w.heap.size w W0) (h2:w.heap.size+2=W0.heap.size) (hM:kV.M w1 W0.heap.size (fun _=>True) y cs) (hc:CT n y) (hb:Below W0.heap.size W0 w1) (a b c d e f:Value):
 CleanN n w (.returned (.agg (List.toArray cs))) ((((((w1.setCell ⟨w.heap.size+1,0,none⟩ a).setCell ⟨w.heap.size+1,1,none⟩ b).setCell ⟨w.heap.size+1,2,none⟩ c).setCell ⟨w.heap.size+1,3,none⟩ d).setCell ⟨w.heap.size+1,4,none⟩ e).setCell ⟨w.heap.size+1,5,none⟩ f):=by
 have hne: ∀j,W0.heap.size≤j→j≠w.heap.size+1:=fun j hj=>by omega
 have hM2:kV.M w1 W0.heap.size (fun j=>W0.heap.size≤j) y cs:=Kd.M_mono _ (fun j hj=>hj.2.1) (Kd.M_bound _ hM)
 exact⟨cs,y,rfl,Kd.M_mono _ (fun _ _=>trivial) (Kd.M_lower _ (by omega) (Kd.M_far (p:=⟨w.heap.size+1,5,none⟩) (Kd.M_far (p:=⟨w.heap.size+1,4,none⟩) (Kd.M_far (p:=⟨w.heap.size+1,3,none⟩) (Kd.M_far (p:=⟨w.heap.size+1,2,none⟩) (Kd.M_far (p:=⟨w.heap.size+1,1,none⟩) (Kd.M_far (p:=⟨w.heap.size+1,0,none⟩) hM2 hne _) hne _) hne _) hne _) hne _) hne _)),hc,below6 hW hb _ _ _ _ _ _⟩
set_option maxRecDepth 100000 in
set_option maxHeartbeats 1000000 in
theorem cleanCall_c (m:Nat) (d:Int) (hd: ¬d≤0) (x:VT) (A2:Option Addr) (c2:Nat) (A5:Option Addr) (n5 c5:Nat) (w:World) (k:Int) (hk89:k=8∨k=9) (hk:(wrap64 (x.f0.tmod 10+10)).tmod 10=k)
 (HD:Hid (∀W,Below w.heap.size w W→Calls Tryz.prog 25 #[.agg (six5 x A2 c2 A5 n5 c5), .int .i64 d] W (CleanN m W)))
 (HS:Hid (∀W,Below w.heap.size w W→Calls Tryz.prog 26 #[.agg (six5 x A2 c2 A5 n5 c5), .int .i64 d] W (CleanN m W))):
 Calls Tryz.prog 9 #[.agg (six5 x A2 c2 A5 n5 c5), .int .i64 d] w (CleanN m w):=by
 obtain⟨a0,a1,a2,a3,a4,a5⟩:=x
 dsimp only[six5] at*
 have HB0:Hid (Below w.heap.size w ((w.alloc (.cells #[.int .i64 a0, .bool a1, .slice A2 a2.length c2, .int .u64 a3, .string a4, .slice A5 n5 c5] 26)).alloc (.cells #[.int .i64 0, .bool false, .slice none 0 0, .int .u64 0, .string ⟨#[]⟩, .slice none 0 0] 26))):=Lib.hid (((Below.refl _ w).alloc (Nat.le_refl _) _).alloc (by simp) _)
 have HK0:Hid (((w.alloc (.cells #[.int .i64 a0, .bool a1, .slice A2 a2.length c2, .int .u64 a3, .string a4, .slice A5 n5 c5] 26)).alloc (.cells #[.int .i64 0, .bool false, .slice none 0 0, .int .u64 0, .string ⟨#[]⟩, .slice none 0 0] 26)).heap[w.heap.size+1]?=some (.cells #[.int .i64 0, .bool false, .slice none 0 0, .int .u64 0, .string ⟨#[]⟩, .slice none 0 0] 26 (0,0))):=Lib.hid (by simpa using blk_new (w.alloc _) _)
 have HZ:Hid (w.heap.size+2=((w.alloc (.cells #[.int .i64 a0, .bool a1, .slice A2 a2.length c2, .int .u64 a3, .string a4, .slice A5 n5 c5] 26)).alloc (.cells #[.int .i64 0, .bool false, .slice none 0 0, .int .u64 0, .string ⟨#[]⟩, .slice none 0 0] 26)).heap.size):=Lib.hid (by simp)
 rcases hk89 with rfl|rfl
 all_goals
  go_enter Tryz.func9,Tryz.ntmps9
  go_upto_region 2 with fail
  clear hk
  go_wp2_with (first
   |(go_at_call 25;(with_reducible refine(HD.out _ (by first|exact HB0.out|exact HB0.out.drew)).mono ?_);rintro e w1 ⟨cs,y,rfl,hM,hct,hb1⟩;obtain⟨Q2,q2,Q5,q5,rfl⟩:=m_shape hM;have HE:=Lib.hid (And.intro hM (And.intro hct hb1));obtain⟨x0,x1,x2,x3,x4,x5⟩:=cells6 (blk_below HK0.out (by first|exact hb1|exact(Below.refl _ _).drew.trans hb1));have hfz:=fun o=>blk_free (blk_below HK0.out (by first|exact hb1|exact(Below.refl _ _).drew.trans hb1)) o;clear hM hct hb1)
   |(go_at_call 26;(with_reducible refine(HS.out _ (by first|exact HB0.out|exact HB0.out.drew)).mono ?_);rintro e w1 ⟨cs,y,rfl,hM,hct,hb1⟩;obtain⟨Q2,q2,Q5,q5,rfl⟩:=m_shape hM;have HE:=Lib.hid (And.intro hM (And.intro hct hb1));obtain⟨x0,x1,x2,x3,x4,x5⟩:=cells6 (blk_below HK0.out (by first|exact hb1|exact(Below.refl _ _).drew.trans hb1));have hfz:=fun o=>blk_free (blk_below HK0.out (by first|exact hb1|exact(Below.refl _ _).drew.trans hb1)) o;clear hM hct hb1))
  refine bodyPost_ret (v:= .agg #[.int .i64 y.f0, .bool y.f1, .slice Q2 y.f2.length q2, .int .u64 y.f3, .string y.f4, .slice Q5 y.f5.length q5]) (by simp[results,Tryz.results9,go_sem,x0,x1,x2,x3,x4,x5]) rfl ?_
  exact clean_box (k:=0) HB0.out HZ.out HE.out.1 HE.out.2.1 HE.out.2.2 _ _ _ _ _ _
theorem cleanTree_c: ∀(n:Nat),n≤8→ ∀(x:VT) (A2:Option Addr) (c2:Nat) (A5:Option Addr) (n5 c5:Nat) (w:World),RawN n w x A2 c2 A5 n5 c5→Calls Tryz.prog 9 #[.agg (six5 x A2 c2 A5 n5 c5), .int .i64 (n:Int)] w (CleanN n w)
 |0,_,x,A2,c2,A5,n5,c5,w,h=>(clean_c x _ w h.1 h.2).mono fun e w' he=>cleanN_of he
 |m+1,hm,x,A2,c2,A5,n5,c5,w,h=>by
  have hd: ¬((m+1:Nat):Int)≤0:=by omega
  have hdd:((m+1:Nat):Int)-1=(m:Int):=by omega
  have hw:IntKind.i64.wrap (m:Int)=(m:Int):=IntWalk.i64_in _ (by omega)
  have ih:=cleanTree_c m (by omega)
  obtain⟨k,hk⟩: ∃k,(wrap64 (x.f0.tmod 10+10)).tmod 10=k:=⟨_,rfl⟩
  have hk9:0≤k∧k≤9:=by
   have a1:=Int.tmod_lt_of_pos x.f0 (show(0:Int)<10 by omega)
   have a2:=Int.lt_tmod_of_pos x.f0 (show(0:Int)<10 by omega)
   rw[wrap_in _ (by omega) (by omega),Int.tmod_eq_emod_of_nonneg (by omega)] at hk
   omega
  by_cases h6:k<6
  ·exact(cleanScaD_c _ hd x _ w h.top.1 h.top.2 (by rw[hk];exact h6)).mono fun e w' he=>cleanN_of he
  by_cases h8:k<8
  ·exact cleanRow_c m _ _ hd hdd hw k (by omega) x A2 c2 A5 n5 c5 w h hk ih
  ·exact cleanCall_c (m+1) _ hd x A2 c2 A5 n5 c5 w k (by omega) hk (Lib.hid fun W hW=>cleanDict_c m (by omega) _ _ hdd hw x A2 c2 A5 n5 c5 W (h.below hW) ih) (Lib.hid fun W hW=>cleanSet_c m (by omega) _ _ hdd hw x A2 c2 A5 n5 c5 W (h.below hW) ih)
end Go.Proofs.YtkplnbjgkhmbcaaGreatDoor
namespace Go.Proofs.YtkplnbjgkhmbcaaGreatDoor
open Go.RowKit Go.Shelf Go.ChangeShapes Go.WideShapes Go.Deep Go.Proofs.YtkplnbjgkhmbcaaGreatDoorW.PrintWords Go.Proofs.YtkplnbjgkhmbcaaGreatDoorW.PrintLast Go.Proofs.YtkplnbjgkhmbcaaGreatDoorW.PrintMore Go.Proofs.YtkplnbjgkhmbcaaGreatDoor.PFnCompare Go.Proofs.YtkplnbjgkhmbcaaGreatDoor.PCmp Go.Proofs.YtkplnbjgkhmbcaaGreatDoor.PbytesOf
set_option linter.unusedVariables false
set_option linter.unusedSimpArgs false
section
variable {H:Type} {enc:TypeId×Value→H} {W:World}
set_option maxRecDepth 100000 in
theorem kids_trod {fuel:Nat} {v0 v1 v2 v3 v4 v5:Value} {y:DataW H×List MemPlace} (h:DataW.trod enc Tryz.prog W 0 (fun _=>true) true fuel 26 [v0,v1,v2,v3,v4,v5]=some y):
 ∃n y5,DataW.trod enc Tryz.prog W 0 (fun _=>true) true n 24 [v5]=some y5:=by
 obtain⟨ys,n,_,_,hl,hyl,hf⟩:=DataW.trod_struct Tryz.underlying26 h
 match ys,hyl with
 |[y0,y1,y2,y3,y4,y5],_=>
  have e3:Tryz.prog.cellsOf 3=1:=by kernel_rfl
  have e4:Tryz.prog.cellsOf 4=1:=by kernel_rfl
  have e22:Tryz.prog.cellsOf 22=1:=by kernel_rfl
  have e23:Tryz.prog.cellsOf 23=1:=by kernel_rfl
  have e9:Tryz.prog.cellsOf 9=1:=by kernel_rfl
  have e24:Tryz.prog.cellsOf 24=1:=by kernel_rfl
  exact⟨n,y5,by simpa [e24] using hf 5 _ rfl⟩
set_option maxRecDepth 100000 in
theorem valN_open: ∀(k:Nat) {fuel:Nat} {cs:List Value} {y:DataW H×List MemPlace},DataW.trod enc Tryz.prog W 0 (fun _=>true) true fuel 26 cs=some y→
 ∃(x:VT) (A2 A5:Option Addr) (c2 n5 c5:Nat),cs=[.int .i64 x.f0, .bool x.f1, .slice A2 x.f2.length c2, .int .u64 x.f3, .string x.f4, .slice A5 n5 c5]∧RawN k W x A2 c2 A5 n5 c5
 |0,_,_,_,h=>by
  obtain⟨x,A2,A5,c2,n5,c5,e,hl2,hC,hR⟩:=val_open h
  exact⟨x,A2,A5,c2,n5,c5,e,⟨A2,c2,A5,n5,c5,rfl,hl2,hC⟩,hR⟩
 |k+1,_,_,_,h=>by
  obtain⟨x,A2,A5,c2,n5,c5,rfl,hl2,hC,hR⟩:=val_open h
  have htop:RR W (.agg (six5 x A2 c2 A5 n5 c5)) x∧Raw x:=⟨⟨A2,c2,A5,n5,c5,rfl,hl2,hC⟩,hR⟩
  obtain⟨n,y5,f5⟩:=kids_trod h
  have h6:Tryz.prog.cellsOf 26=6:=by kernel_rfl
  rcases open_slice Tryz.underlying24 f5 with⟨hcs,_⟩|⟨a,len,cap,m,n',D,Pl,hcs,_,hle,hmx,hm,_,hel⟩
  ·simp only[List.cons.injEq,and_true,Value.slice.injEq] at hcs
   obtain⟨e1,e2,e3⟩:=hcs
   subst e1 e2 e3
   exact⟨x,A2,none,c2,0,0,rfl,htop,Nat.zero_le _,fun i hi=>absurd hi (Nat.not_lt_zero _)⟩
  ·simp only[List.cons.injEq,and_true,Value.slice.injEq] at hcs
   obtain⟨e1,e2,e3⟩:=hcs
   subst e1 e2 e3
   simp only[if_true] at hm
   rw[h6] at hel
   unfold maxLen at hmx
   refine⟨x,A2,some a,c2,n5,c5,rfl,htop,by omega,fun i hi=>?_⟩
   obtain⟨cs',hc,ht⟩:=hel i (by omega)
   obtain⟨z,P2,P5,p2,m5,p5,rfl,hz⟩:=valN_open k ht
   obtain⟨_,_,hat⟩:=World.cells?_some hc
   obtain⟨cs0,hc0,ht0⟩:=hel 0 (by omega)
   obtain⟨x0,B2,B5,d2,q5,d5,rfl,_⟩:=val_open ht0
   obtain⟨_,_,hat0⟩:=World.cells?_some hc0
   obtain⟨b,o,sp⟩:=a
   have hs:sp=none:=by
    have h1:=World.cell?_spot (hat0 0 (by omega))
    simpa [Addr.add] using h1
   subst hs
   have ha: ∀j,(⟨b,o,none⟩:Addr).add j=⟨b,o+j,none⟩:=fun j=>by
    unfold Addr.add;split<;>simp_all
   simp only[ha] at hat
   have ha2: ∀p j,(⟨b,p,none⟩:Addr).add j=⟨b,p+j,none⟩:=fun p j=>by
    unfold Addr.add;split<;>simp_all
   simp only[ha2] at hat
   have k0:=hat 0 (by omega)
   exact⟨b,o,z,P2,p2,P5,m5,p5,rfl,lt_of_cell k0,by simpa using k0,hat 1 (by omega),hat 2 (by omega),hat 3 (by omega),hat 4 (by omega),hat 5 (by omega),hz⟩
end
end Go.Proofs.YtkplnbjgkhmbcaaGreatDoor
namespace Go.Proofs.YtkplnbjgkhmbcaaGreatDoor
open Go.RowKit Go.Shelf Go.Proofs.YtkplnbjgkhmbcaaGreatDoorW.PrintWords Go.Proofs.YtkplnbjgkhmbcaaGreatDoorW.PrintLast Go.Proofs.YtkplnbjgkhmbcaaGreatDoorW.PrintMore Go.Proofs.YtkplnbjgkhmbcaaGreatDoor.PFnCompare Go.Proofs.YtkplnbjgkhmbcaaGreatDoor.PCmp Go.Proofs.YtkplnbjgkhmbcaaGreatDoor.PbytesOf
set_option linter.unusedVariables false
set_option linter.unusedSimpArgs false
theorem ratNum_c (g:Nat) (na:Bool) (va vb:Value) (xs ys:List Int) (w:World) (h:RT w g na va xs vb ys):Calls Tryz.prog 339 #[.pointer (some ⟨g,0,none⟩)] w fun e w'=>e= .returned (.pointer (some ⟨g,0,none⟩))∧w'=w:=by
 have c0:=blk_cell h.blk 0 _ rfl
 clear h
 go_enter Tryz.func339,Tryz.ntmps339
 go_wp2
 go_ret
 exact⟨rfl,rfl⟩
theorem ratDenom_c (g:Nat) (na:Bool) (va vb:Value) (xs:List Int) (w:World) (h:RT w g na va xs vb [1]):Calls Tryz.prog 340 #[.pointer (some ⟨g,0,none⟩)] w fun e w'=>e= .returned (.pointer (some ⟨g,2,none⟩))∧w'=w:=by
 have c3:=blk_cell h.blk 3 _ rfl
 obtain⟨A,c,rfl,_⟩:=h.sb
 simp only[List.length_singleton] at c3
 clear h
 go_enter Tryz.func340,Tryz.ntmps340
 go_wp2
 go_ret
 exact⟨rfl,rfl⟩
theorem HIv.two {w:World} {v:Value} {x:Int} {g0:Nat} {y:Int} {p:Option Addr} (h:HIv w v x) (hk:w.heap[g0]?=some (.cells #[.int .i64 y, .pointer p] 122 (0,0))) (a b:Value):HIv ((w.setCell ⟨g0,0,none⟩ a).setCell ⟨g0,1,none⟩ b) v x:=by
 rcases h with h|⟨hs,g,n,u,zs,e,hp,hv⟩
 ·exact Or.inl h
 ·refine Or.inr ⟨hs,g,n,u,zs,e,HIv.put2 hp (fun e=>?_) hk a b,hv⟩
  subst e
  have h1:=hp.c0
  rw[blk_cell hk 0 _ rfl] at h1
  injection h1 with h1
  cases h1
set_option maxRecDepth 100000 in
theorem finiteFloat_c (b:Nat) (w:World) (hb:b<18446744073709551616) (s:Bool) (m:Nat) (p:Int) (hd:fdat b= .number s m p) (hm:m<9007199254740992) (hp: -1074≤p):
 Calls Tryz.prog 337 #[.float .f64 b] w fun e w'=> ∃u,e= .returned u∧HIv w' u (truncF s m p)∧Below w.heap.size w w':=by
 have HB0:Hid (∀o,Below w.heap.size w (w.alloc o)):=fun o=>(Below.refl _ _).alloc (Nat.le_refl _) o
 have HK0:Hid ((w.alloc (.cells #[.int .i64 0, .pointer none] 122)).heap[w.heap.size]?=some (.cells #[.int .i64 0, .pointer none] 122 (0,0))):=blk_new _ _
 have ho1:FloatKind.f64.format.order 14114281232179134464 b=some (compare (-9223372036854775808*(KN:Int)) (smag s m*2^(p+1074).toNat)):=by
  have:=ord_worth fmin_dat hd (by decide) hp
  rw[show smag true 4503599627370496*2^(11+1074:Int).toNat= -9223372036854775808*(KN:Int) by show-(4503599627370496:Int)*_=_;rw[Int.neg_mul,two63,Int.neg_mul]] at this
  exact this
 have ho2:FloatKind.f64.format.order b 4890909195324358656=some (compare (smag s m*2^(p+1074).toNat) (9223372036854775808*(KN:Int))):=by
  have:=ord_worth hd ftop_dat hp (by decide)
  rw[show smag false 4503599627370496*2^(11+1074:Int).toNat=9223372036854775808*(KN:Int) from two63] at this
  exact this
 have hlt: ∀x y:Int,(some (compare x y)==some Ordering.lt)=decide (x<y):=fun x y=>by rw[Option.some_beq_some,cmp_lt_iff]
 have heq: ∀x y:Int,(some (compare x y)==some Ordering.eq)=decide (x=y):=fun x y=>by
  rw[Option.some_beq_some,Bool.eq_iff_iff]
  simp only[beq_iff_eq,cmp_eq_iff,decide_eq_true_eq]
 by_cases hin: -9223372036854775808*(KN:Int)≤smag s m*2^(p+1074).toNat∧smag s m*2^(p+1074).toNat<9223372036854775808*(KN:Int)
 ·have hr:=tdiv_in KI_pos hin.1 hin.2
  rw[←trunc_worth s m p hp] at hr
  have d1:(FloatKind.f64.format.order 14114281232179134464 b==some Ordering.lt||FloatKind.f64.format.order 14114281232179134464 b==some Ordering.eq)=true:=by
   rw[ho1,hlt,heq]
   generalize (KN:Int)=K at hin⊢
   simp
   omega
  have d2:(FloatKind.f64.format.order b 4890909195324358656==some Ordering.lt)=true:=by
   rw[ho2,hlt]
   simpa using hin.2
  have hv:floatToIntVal .f64 b .i64=some (truncF s m p):=by
   unfold floatToIntVal
   rw[show FloatKind.f64.decode b=fdat b from rfl,hd,toInt_num]
   show(if IntKind.i64.min≤truncF s m p∧truncF s m p≤IntKind.i64.max then _ else _)=_
   rw[if_pos ⟨by have:IntKind.i64.min= -9223372036854775808:=by decide
                 omega,by have:IntKind.i64.max=9223372036854775807:=by decide
                          omega⟩]
  have hcv:=fun w=>run_convert_float_int (P:=Tryz.prog) w 123 2 .f64 .i64 b (truncF s m p) (by rw[Tryz.underlying123];rfl) Tryz.underlying2 hv
  obtain⟨x,hx⟩: ∃x,truncF s m p=x:=⟨_,rfl⟩
  rw[hx] at hcv hr⊢
  have HM:=Lib.hid (fun W=>makeInt64_c x W hr)
  clear ho1 ho2 hlt heq hin hv hx hr hd hm hp hb
  go_enter Tryz.func337,Tryz.ntmps337
  go_wp2_with (go_at_call 338;(with_reducible refine(HM.out _).mono ?_);rintro e w1 ⟨u,rfl,hu,hb1⟩;have HU:=Lib.hid hu;have HB:=Lib.hid ((HB0.out _).trans (hb1.mono (HB0.out _).size));have HK:=Lib.hid (blk_below HK0.out hb1);obtain⟨y,q,rfl⟩:=hu.shape;obtain⟨q0,q1,f0,f1⟩:=two_cells (blk_below HK0.out hb1);clear hu hb1)
  refine bodyPost_ret (v:= .agg #[.int .i64 y, .pointer q]) (by simp[results,Tryz.results337,go_sem,q0,q1]) rfl ⟨_,rfl,HU.out.two HK.out _ _,(HB.out.setCell (p:=⟨w.heap.size,0,none⟩) (Nat.le_refl _) _).setCell (p:=⟨w.heap.size,1,none⟩) (Nat.le_refl _) _⟩
 ·obtain⟨hp11,ht,hs⟩:=big_worth hm hp hin
  have HR:=Lib.hid (fun W=>frational_c b W hb s m p hd)
  have HT:=Lib.hid (And.intro hp11 (And.intro ht hs))
  have HX:Hid (∀na xs,bval na xs*2^(-p).toNat=smag s m*2^p.toNat*leN [1]→bval na xs=truncF s m p∧xs≠[]):=Lib.hid fun na xs h=>by
   have e:bval na xs=truncF s m p:=by
    rw[HT.out.2.1]
    rw[show(-p).toNat=0 by omega,leN_one] at h
    simpa using h
   refine⟨e,fun h0=>?_⟩
   rw[h0] at e
   have:=HT.out.2.2
   rw[←e] at this
   revert this
   unfold bval
   cases na<;>simp[leN,sml]
  have hd1:(FloatKind.f64.format.order 14114281232179134464 b==some Ordering.lt||FloatKind.f64.format.order 14114281232179134464 b==some Ordering.eq)=false∨((FloatKind.f64.format.order 14114281232179134464 b==some Ordering.lt||FloatKind.f64.format.order 14114281232179134464 b==some Ordering.eq)=true∧(FloatKind.f64.format.order b 4890909195324358656==some Ordering.lt)=false):=by
   rw[ho1,ho2,hlt,hlt,heq]
   generalize (KN:Int)=K at hin⊢
   generalize smag s m*2^(p+1074).toNat=W at hin⊢
   simp only[Bool.or_eq_false_iff,decide_eq_false_iff_not,Bool.or_eq_true,decide_eq_true_eq]
   omega
  clear ho1 ho2 hlt heq hin hp11 ht hs hd hm hp hb
  rcases hd1 with d1|⟨d1,d2⟩
  all_goals
   go_enter Tryz.func337,Tryz.ntmps337
   go_wp2_with (first
    |(go_at_call 65;(with_reducible refine(HR.out _).mono ?_);rintro e w1 ⟨g,na,va,xs,vb,ys,hg,rfl,k1,k2,k3,k4,k5,k6,k7,hb1,k8⟩;obtain rfl:=k8 (by have:=HT.out.1;omega);have HA:=Lib.hid (And.intro k1 (And.intro (HX.out na xs k3) k5));have HG:=Lib.hid hg;have HB:=Lib.hid ((HB0.out _).trans (hb1.mono (HB0.out _).size));have HK:=Lib.hid (blk_below HK0.out hb1);clear k1 k2 k3 k4 k5 k6 k7 k8 hb1 hg)
    |(go_at_call 339;(with_reducible refine(ratNum_c g na va vb xs [1] _ (HA.out.1.below ((Below.refl _ _).alloc (Nat.le_refl _) _))).mono ?_);rintro e w2 ⟨rfl,hw2⟩;have HW2:=Lib.hid hw2;clear hw2)
    |(go_at_call 340;(with_reducible refine(ratDenom_c g na va vb xs _ (by rw[HW2.out];exact HA.out.1.below ((Below.refl _ _).alloc (Nat.le_refl _) _))).mono ?_);rintro e w3 ⟨rfl,hw3⟩;have HW3:=Lib.hid (hw3.trans HW2.out);clear hw3)
    |(go_at_call 203;(with_reducible refine(div1_c w1.heap.size g na va vb xs _ (by rw[HW3.out];exact HA.out.1.below ((Below.refl _ _).alloc (Nat.le_refl _) _)) HA.out.2.1.2 (by have:=HA.out.2.2;omega) (by rw[HW3.out];exact blk_new _ _) (lt_blk HA.out.1.blk)).mono ?_);rintro e w4 ⟨rfl,⟨u,hbi⟩,hb4⟩;rw[HW3.out] at hb4;have HBI:=Lib.hid hbi;have HB4:=Lib.hid (((Below.refl w1.heap.size w1).alloc (Nat.le_refl _) _).trans hb4);clear hbi hb4)
    |(go_at_call 130;(with_reducible refine(makeBigInt_c w1.heap.size na u xs _ HBI.out (by have:=HA.out.2.2;omega)).mono ?_);rintro e w5 ⟨z,rfl,hz,hb5⟩;have HZ:=Lib.hid hz.hi;have HB5:=Lib.hid (HB.out.trans ((HB4.out.trans (hb5.mono HB4.out.size)).mono HB.out.size));have HK5:=Lib.hid (blk_below HK.out (HB4.out.trans (hb5.mono HB4.out.size)));obtain⟨y,q,rfl⟩:=hz.shape;obtain⟨q0,q1,f0,f1⟩:=two_cells HK5.out;clear hz hb5))
   refine bodyPost_ret (v:= .agg #[.int .i64 y, .pointer q]) (by simp[results,Tryz.results337,go_sem,q0,q1]) rfl ⟨_,rfl,?_,(HB5.out.setCell (p:=⟨w.heap.size,0,none⟩) (Nat.le_refl _) _).setCell (p:=⟨w.heap.size,1,none⟩) (Nat.le_refl _) _⟩
   rw[←HA.out.2.1.1]
   exact HZ.out.two HK5.out _ _
theorem fdat_abs (b:Nat):fdat (b%9223372036854775808)=match fdat b with| .number _ m p=> .number false m p| .infinity _=> .infinity false| .nan _ f=> .nan false f:=by
 unfold fdat Ieee.Format.read
 simp only[sw,bn,ir,lp]
 rw[Nat.mod_mod,Nat.div_eq_of_lt (Nat.mod_lt _ (by decide))]
 split
 ·rfl
 ·split
  ·rfl
  ·split<;>rfl
def finB (b:Nat):Bool:=match fdat b with| .number _ _ _=>true|_=>false
theorem fin_ord (b:Nat) (hb:b<18446744073709551616):(FloatKind.f64.format.order (b%9223372036854775808) 9218868437227405311==some Ordering.lt||FloatKind.f64.format.order (b%9223372036854775808) 9218868437227405311==some Ordering.eq)=finB b:=by
 have ha:=above_max (b%9223372036854775808) (by omega)
 rw[fdat_abs] at ha
 rw[ord_def]
 have hn:=ord_dat (b%9223372036854775808) 9218868437227405311
 rw[fdat_abs,fmax_dat] at hn
 unfold finB
 rcases fcase b hb with⟨s,m,p,h,_⟩|⟨s,h,hs⟩|⟨s,f,h⟩
 ·rw[h] at ha hn⊢
  simp only at ha hn
  rw[hn] at ha⊢
  change (some (compare _ _)==some Ordering.gt)=false at ha
  change (some (compare _ _)==some Ordering.lt||some (compare _ _)==some Ordering.eq)=true
  revert ha
  generalize compare (Ieee.signed false m (p-min p 971).toNat) (Ieee.signed false 9007199254740991 (971-min p 971).toNat)=o
  cases o<;>decide
 ·rw[h] at hn⊢
  rw[hn]
  rfl
 ·rw[h] at hn⊢
  rw[hn]
  rfl
theorem isFinite_c (b:Nat) (w:World) (hb:b<18446744073709551616):Calls Tryz.prog 336 #[.float .f64 b] w fun e w'=>e= .returned (.bool (finB b))∧w'=w:=by
 have HA:=Lib.hid (fun w=>mabs_c b w hb)
 have HF:=fin_ord b hb
 clear hb
 go_enter Tryz.func336,Tryz.ntmps336
 go_wp2_with (go_at_call 97;(with_reducible refine(HA.out _).mono ?_);rintro e w1 ⟨rfl,rfl⟩)
 go_ret
 exact⟨by first|rfl|rw[HF],rfl⟩
set_option maxRecDepth 100000 in
theorem hashFloat_c (b:Nat) (w:World) (hb:b<18446744073709551616):Calls Tryz.prog 331 #[.float .f64 b] w fun e w'=>e= .returned (.tuple #[.int .u32 (hashS (.float b)), .nilIface])∧Below w.heap.size w w':=by
  have HI:=Lib.hid (fun w=>isFinite_c b w hb)
  have hF:finB b=true∨finB b=false:=by cases finB b<;>simp
  rcases hF with hF|hF
  · obtain⟨s,m,p,hd,hm,hp⟩: ∃s m p,fdat b= .number s m p∧m<9007199254740992∧ -1074≤p:=by
      rcases fcase b hb with⟨s,m,p,h,hs,hm,hp,_⟩|⟨s,h,hs⟩|⟨s,f,h⟩
      ·exact⟨s,m,p,h,hm,hp⟩
      ·unfold finB at hF;rw[h] at hF;cases hF
      ·unfold finB at hF;rw[h] at hF;cases hF
    have HL:Hid (hashS (.float b)=hashS (.int (truncF s m p))):=Lib.hid (by show hashF b=hashZ _;unfold hashF;rw[hd])
    have HFF:=Lib.hid (fun W=>finiteFloat_c b W hb s m p hd hm hp)
    rw[hF] at HI
    rw[HL.out]
    generalize truncF s m p=x at HFF⊢
    clear hb hd hm hp hF HL
    go_enter Tryz.func331,Tryz.ntmps331
    go_wp2_with (first
      |(go_at_call 336;(with_reducible refine(HI.out _).mono ?_);rintro e w1 ⟨rfl,hw1⟩;have HW:=Lib.hid hw1;clear hw1)
      |(go_at_call 337;(with_reducible refine(HFF.out _).mono ?_);rintro e w2 ⟨u,rfl,hu,hb2⟩;rw[HW.out] at hb2;have HU:=Lib.hid hu;have HB:=Lib.hid hb2;clear hu hb2)
      |(go_at_call 323;(with_reducible refine(hashInt_c _ _ _ HU.out).mono ?_);rintro e w3 ⟨rfl,hb3⟩;have HB3:=Lib.hid (HB.out.trans (hb3.mono HB.out.size));clear hb3))
    go_ret2
    exact⟨rfl,HB3.out⟩
  · have HL:Hid (hashS (.float b)=1618033):=Lib.hid (by
      show hashF b=_
      unfold hashF
      unfold finB at hF
      split
      ·rename_i h;rw[h] at hF;cases hF
      ·rfl)
    rw[hF] at HI
    rw[HL.out]
    clear hb hF HL
    go_enter Tryz.func331,Tryz.ntmps331
    go_wp2_with (go_at_call 336;(with_reducible refine(HI.out _).mono ?_);rintro e w1 ⟨rfl,hw1⟩;have HW:=Lib.hid hw1;clear hw1)
    go_ret2
    exact⟨rfl,by rw[HW.out];exact Below.refl _ _⟩
end Go.Proofs.YtkplnbjgkhmbcaaGreatDoor
