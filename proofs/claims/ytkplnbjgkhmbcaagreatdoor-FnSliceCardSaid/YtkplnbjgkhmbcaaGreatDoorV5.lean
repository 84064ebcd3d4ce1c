/- SlL -/
import Derived.Test.YtkplnbjgkhmbcaaGreatDoorV4
namespace Go.Proofs.YtkplnbjgkhmbcaaGreatDoor
open Go.RowKit Go.Shelf Go.Proofs.YtkplnbjgkhmbcaaGreatDoorW.PrintWords Go.Proofs.YtkplnbjgkhmbcaaGreatDoorW.PrintLast Go.Proofs.YtkplnbjgkhmbcaaGreatDoorW.PrintMore Go.Proofs.YtkplnbjgkhmbcaaGreatDoor.PFnCompare Go.Proofs.YtkplnbjgkhmbcaaGreatDoor.PCmp Go.Proofs.YtkplnbjgkhmbcaaGreatDoor.PbytesOf
set_option linter.unusedVariables false
set_option linter.unusedSimpArgs false
theorem saList (v:Value) (w:World):(Instr.typeAssert (.iface 82 v) 57 133 true).run Tryz.prog w= .ok (.tuple #[.iface 82 v, .bool true]) w:=by kernel_rfl
theorem slmLList (v:Value) (w:World):(method 560 82 v "Len").run Tryz.prog w= .ok (122,v) w:=by kernel_rfl
theorem slmSList (v:Value) (w:World):(method 560 82 v "Slice").run Tryz.prog w= .ok (280,v) w:=by kernel_rfl
theorem saTuple (v:Value) (w:World):(Instr.typeAssert (.iface 98 v) 57 133 true).run Tryz.prog w= .ok (.tuple #[.iface 98 v, .bool true]) w:=by kernel_rfl
theorem slmLTuple (v:Value) (w:World):(method 560 98 v "Len").run Tryz.prog w= .ok (290,v) w:=by kernel_rfl
theorem slmSTuple (v:Value) (w:World):(method 560 98 v "Slice").run Tryz.prog w= .ok (291,v) w:=by kernel_rfl
theorem saString (v:Value) (w:World):(Instr.typeAssert (.iface 141 v) 57 133 true).run Tryz.prog w= .ok (.tuple #[.iface 141 v, .bool true]) w:=by kernel_rfl
theorem slmLString (v:Value) (w:World):(method 560 141 v "Len").run Tryz.prog w= .ok (359,v) w:=by kernel_rfl
theorem slmSString (v:Value) (w:World):(method 560 141 v "Slice").run Tryz.prog w= .ok (360,v) w:=by kernel_rfl
theorem saBytes (v:Value) (w:World):(Instr.typeAssert (.iface 142 v) 57 133 true).run Tryz.prog w= .ok (.tuple #[.iface 142 v, .bool true]) w:=by kernel_rfl
theorem slmLBytes (v:Value) (w:World):(method 560 142 v "Len").run Tryz.prog w= .ok (373,v) w:=by kernel_rfl
theorem slmSBytes (v:Value) (w:World):(method 560 142 v "Slice").run Tryz.prog w= .ok (374,v) w:=by kernel_rfl
set_option maxRecDepth 100000 in
theorem tupLenRow_c (A:Option Addr) (n c:Nat) (w:World):Calls Tryz.prog 290 #[.slice A n c] w fun e w'=>e= .returned (.int .i64 n)∧w'=w:=by
 go_enter Tryz.func290,Tryz.ntmps290
 go_wp2
 go_ret
 exact⟨rfl,rfl⟩
set_option maxRecDepth 100000 in
theorem strLenT_c (t:ByteArray) (w:World):Calls Tryz.prog 359 #[.string t] w fun e w'=>e= .returned (.int .i64 t.size)∧w'=w:=by
 go_enter Tryz.func359,Tryz.ntmps359
 go_wp2
 go_ret
 exact⟨rfl,rfl⟩
set_option maxRecDepth 100000 in
theorem bytLenT_c (t:ByteArray) (w:World):Calls Tryz.prog 373 #[.string t] w fun e w'=>e= .returned (.int .i64 t.size)∧w'=w:=by
 go_enter Tryz.func373,Tryz.ntmps373
 go_wp2
 go_ret
 exact⟨rfl,rfl⟩
set_option maxRecDepth 100000 in
set_option maxHeartbeats 1000000 in
theorem slicedList_c (v:Value) (n:Nat) (s f st:Int) (w:World) (Q:Value→World→Prop) (hL:Calls Tryz.prog 122 #[v] w fun e w'=>e= .returned (.int .i64 n)∧w'=w) (hS:Calls Tryz.prog 280 #[v, .int .i64 s, .int .i64 f, .int .i64 st] w fun e w'=> ∃u,e= .returned u∧Q u w') (hE:EndsOk n s f st):
 Calls Tryz.prog 39 #[.iface 82 v, .int .i64 s, .int .i64 f, .int .i64 st] w fun e w'=> ∃u,e= .returned (.tuple #[u, .bool true])∧Q u w':=by
 have t1:=saList
 have m1:=slmLList
 have m2:=slmSList
 have HL:=Lib.hid hL
 have HS:=Lib.hid hS
 clear hL hS
 rcases hE with⟨h1,h2,h3,h4,h5⟩|⟨h1,h2,h3,h4,h5⟩
 ·have a1:0<st:=by omega
  have a2: ¬st<0:=by omega
  clear h1 h2
  go_enter Tryz.func39,Tryz.ntmps39
  go_wp2_with (first
   |(go_at_call 122;(with_reducible refine HL.out.mono ?_);rintro e w1 ⟨rfl,hw1⟩;have hw2:=hw1.symm;clear hw1;subst hw2)
   |(go_at_call 280;(with_reducible refine HS.out.mono ?_);rintro e w1 ⟨u,rfl,hq⟩;have HQ:=Lib.hid hq;clear hq))
  go_ret2
  exact⟨_,rfl,HQ.out⟩
 ·have a1: ¬0<st:=by omega
  have a2:st<0:=by omega
  clear h1 h2
  go_enter Tryz.func39,Tryz.ntmps39
  go_wp2_with (first
   |(go_at_call 122;(with_reducible refine HL.out.mono ?_);rintro e w1 ⟨rfl,hw1⟩;have hw2:=hw1.symm;clear hw1;subst hw2)
   |(go_at_call 280;(with_reducible refine HS.out.mono ?_);rintro e w1 ⟨u,rfl,hq⟩;have HQ:=Lib.hid hq;clear hq))
  go_ret2
  exact⟨_,rfl,HQ.out⟩
set_option maxRecDepth 100000 in
set_option maxHeartbeats 1000000 in
theorem slicedTuple_c (v:Value) (n:Nat) (s f st:Int) (w:World) (Q:Value→World→Prop) (hL:Calls Tryz.prog 290 #[v] w fun e w'=>e= .returned (.int .i64 n)∧w'=w) (hS:Calls Tryz.prog 291 #[v, .int .i64 s, .int .i64 f, .int .i64 st] w fun e w'=> ∃u,e= .returned u∧Q u w') (hE:EndsOk n s f st):
 Calls Tryz.prog 39 #[.iface 98 v, .int .i64 s, .int .i64 f, .int .i64 st] w fun e w'=> ∃u,e= .returned (.tuple #[u, .bool true])∧Q u w':=by
 have t1:=saTuple
 have m1:=slmLTuple
 have m2:=slmSTuple
 have HL:=Lib.hid hL
 have HS:=Lib.hid hS
 clear hL hS
 rcases hE with⟨h1,h2,h3,h4,h5⟩|⟨h1,h2,h3,h4,h5⟩
 ·have a1:0<st:=by omega
  have a2: ¬st<0:=by omega
  clear h1 h2
  go_enter Tryz.func39,Tryz.ntmps39
  go_wp2_with (first
   |(go_at_call 290;(with_reducible refine HL.out.mono ?_);rintro e w1 ⟨rfl,hw1⟩;have hw2:=hw1.symm;clear hw1;subst hw2)
   |(go_at_call 291;(with_reducible refine HS.out.mono ?_);rintro e w1 ⟨u,rfl,hq⟩;have HQ:=Lib.hid hq;clear hq))
  go_ret2
  exact⟨_,rfl,HQ.out⟩
 ·have a1: ¬0<st:=by omega
  have a2:st<0:=by omega
  clear h1 h2
  go_enter Tryz.func39,Tryz.ntmps39
  go_wp2_with (first
   |(go_at_call 290;(with_reducible refine HL.out.mono ?_);rintro e w1 ⟨rfl,hw1⟩;have hw2:=hw1.symm;clear hw1;subst hw2)
   |(go_at_call 291;(with_reducible refine HS.out.mono ?_);rintro e w1 ⟨u,rfl,hq⟩;have HQ:=Lib.hid hq;clear hq))
  go_ret2
  exact⟨_,rfl,HQ.out⟩
set_option maxRecDepth 100000 in
set_option maxHeartbeats 1000000 in
theorem slicedString_c (v:Value) (n:Nat) (s f st:Int) (w:World) (Q:Value→World→Prop) (hL:Calls Tryz.prog 359 #[v] w fun e w'=>e= .returned (.int .i64 n)∧w'=w) (hS:Calls Tryz.prog 360 #[v, .int .i64 s, .int .i64 f, .int .i64 st] w fun e w'=> ∃u,e= .returned u∧Q u w') (hE:EndsOk n s f st):
 Calls Tryz.prog 39 #[.iface 141 v, .int .i64 s, .int .i64 f, .int .i64 st] w fun e w'=> ∃u,e= .returned (.tuple #[u, .bool true])∧Q u w':=by
 have t1:=saString
 have m1:=slmLString
 have m2:=slmSString
 have HL:=Lib.hid hL
 have HS:=Lib.hid hS
 clear hL hS
 rcases hE with⟨h1,h2,h3,h4,h5⟩|⟨h1,h2,h3,h4,h5⟩
 ·have a1:0<st:=by omega
  have a2: ¬st<0:=by omega
  clear h1 h2
  go_enter Tryz.func39,Tryz.ntmps39
  go_wp2_with (first
   |(go_at_call 359;(with_reducible refine HL.out.mono ?_);rintro e w1 ⟨rfl,hw1⟩;have hw2:=hw1.symm;clear hw1;subst hw2)
   |(go_at_call 360;(with_reducible refine HS.out.mono ?_);rintro e w1 ⟨u,rfl,hq⟩;have HQ:=Lib.hid hq;clear hq))
  go_ret2
  exact⟨_,rfl,HQ.out⟩
 ·have a1: ¬0<st:=by omega
  have a2:st<0:=by omega
  clear h1 h2
  go_enter Tryz.func39,Tryz.ntmps39
  go_wp2_with (first
   |(go_at_call 359;(with_reducible refine HL.out.mono ?_);rintro e w1 ⟨rfl,hw1⟩;have hw2:=hw1.symm;clear hw1;subst hw2)
   |(go_at_call 360;(with_reducible refine HS.out.mono ?_);rintro e w1 ⟨u,rfl,hq⟩;have HQ:=Lib.hid hq;clear hq))
  go_ret2
  exact⟨_,rfl,HQ.out⟩
set_option maxRecDepth 100000 in
set_option maxHeartbeats 1000000 in
theorem slicedBytes_c (v:Value) (n:Nat) (s f st:Int) (w:World) (Q:Value→World→Prop) (hL:Calls Tryz.prog 373 #[v] w fun e w'=>e= .returned (.int .i64 n)∧w'=w) (hS:Calls Tryz.prog 374 #[v, .int .i64 s, .int .i64 f, .int .i64 st] w fun e w'=> ∃u,e= .returned u∧Q u w') (hE:EndsOk n s f st):
 Calls Tryz.prog 39 #[.iface 142 v, .int .i64 s, .int .i64 f, .int .i64 st] w fun e w'=> ∃u,e= .returned (.tuple #[u, .bool true])∧Q u w':=by
 have t1:=saBytes
 have m1:=slmLBytes
 have m2:=slmSBytes
 have HL:=Lib.hid hL
 have HS:=Lib.hid hS
 clear hL hS
 rcases hE with⟨h1,h2,h3,h4,h5⟩|⟨h1,h2,h3,h4,h5⟩
 ·have a1:0<st:=by omega
  have a2: ¬st<0:=by omega
  clear h1 h2
  go_enter Tryz.func39,Tryz.ntmps39
  go_wp2_with (first
   |(go_at_call 373;(with_reducible refine HL.out.mono ?_);rintro e w1 ⟨rfl,hw1⟩;have hw2:=hw1.symm;clear hw1;subst hw2)
   |(go_at_call 374;(with_reducible refine HS.out.mono ?_);rintro e w1 ⟨u,rfl,hq⟩;have HQ:=Lib.hid hq;clear hq))
  go_ret2
  exact⟨_,rfl,HQ.out⟩
 ·have a1: ¬0<st:=by omega
  have a2:st<0:=by omega
  clear h1 h2
  go_enter Tryz.func39,Tryz.ntmps39
  go_wp2_with (first
   |(go_at_call 373;(with_reducible refine HL.out.mono ?_);rintro e w1 ⟨rfl,hw1⟩;have hw2:=hw1.symm;clear hw1;subst hw2)
   |(go_at_call 374;(with_reducible refine HS.out.mono ?_);rintro e w1 ⟨u,rfl,hq⟩;have HQ:=Lib.hid hq;clear hq))
  go_ret2
  exact⟨_,rfl,HQ.out⟩
def zVT:VT:=⟨0,false,[],0,⟨#[]⟩,[]⟩
def slT (x:VT) (s st:Int) (k:Nat):VT:=if x.f0≤5 then⟨x.f0,false,[],0,pkT x.f4 s st k,[]⟩ else⟨x.f0,false,[],0,⟨#[]⟩,pk zVT x.f5 s st k⟩
theorem slT_txt {x:VT} (h:x.f0≤5) (s st:Int) (k:Nat):slT x s st k=⟨x.f0,false,[],0,pkT x.f4 s st k,[]⟩:=if_pos h
theorem slT_box {x:VT} (h: ¬x.f0≤5) (s st:Int) (k:Nat):slT x s st k=⟨x.f0,false,[],0,⟨#[]⟩,pk zVT x.f5 s st k⟩:=if_neg h
theorem pkT_size (t:ByteArray) (s st:Int) (k:Nat):(pkT t s st k).size=k:=by
 show(pk 0 t.data.toList s st k).toArray.size=k
 rw[List.size_toArray,pk_len]
theorem stops_len {n:Nat} {s f st:Int} {k:Nat} (hE:EndsOk n s f st) (hS:Stops s f st k):k≤n:=by
 rcases Nat.eq_zero_or_pos k with h|h
 ·omega
 ·have:=ends_q hE (k-1) (hS.1 _ (by omega))
  omega
theorem pk_mem {α:Type} {d:α} {us:List α} {s f st:Int} {k:Nat} (hE:EndsOk us.length s f st) (hS:Stops s f st k): ∀u∈pk d us s st k,u∈us:=by
 intro u hu
 obtain⟨q,hq,rfl⟩:=List.mem_iff_getElem.1 hu
 rw[pk_at]
 rw[pk_len] at hq
 have hr:=ends_in hE q (hS.1 q hq)
 rw[List.getD_eq_getElem?_getD,List.getElem?_eq_getElem (by omega)]
 exact List.getElem_mem _
theorem slT_ct {n:Nat} {x:VT} {s f st:Int} {k:Nat} (hc:CT n x) (h47:4≤x.f0∧x.f0≤7) (hE:EndsOk (lnV x) s f st) (hS:Stops s f st k):CT n (slT x s st k):=by
 have hk:=stops_len hE hS
 by_cases h5:x.f0≤5
 ·rw[slT_txt h5]
  obtain⟨s0,hs,hf⟩:=hc.isSC (by omega)
  have hkd:=hs.kind
  have el:lnV x=x.f4.size:=by unfold lnV;rw[if_pos h5]
  cases s0<;>simp[Sca.kind] at hkd<;>first|(exfalso;omega)|skip
  ·refine CT.sc ⟨.str (pkT x.f4 s st k),?_,?_⟩ n
   ·rw[hkd]
    exact canon_flat ⟨by decide,by decide⟩ (by decide) ⟨by decide,by decide⟩ rfl (fun h _=>absurd rfl h)
   ·have e2:=(canon_str hs).2
    have h2:x.f4.size≤2147483647:=by rw[e2];exact hf
    (show(pkT x.f4 s st k).size≤2147483647;rw[pkT_size];omega)
  ·refine CT.sc ⟨.bytes (pkT x.f4 s st k),?_,?_⟩ n
   ·rw[hkd]
    exact canon_flat ⟨by decide,by decide⟩ (by decide) ⟨by decide,by decide⟩ rfl (fun _ h=>absurd rfl h)
   ·have e2:=(canon_bytes hs).2
    have h2:x.f4.size≤2147483647:=by rw[e2];exact hf
    (show(pkT x.f4 s st k).size≤2147483647;rw[pkT_size];omega)
 ·rw[slT_box h5]
  have el:lnV x=x.f5.length:=by unfold lnV;rw[if_neg h5]
  rw[el] at hE hk
  obtain⟨m,rfl,hb,h16,hct,hq⟩:=hc.isBox (by omega)
  refine Or.inr ⟨⟨rfl,rfl,rfl,rfl⟩,by show(pk zVT x.f5 s st k).length≤16;rw[pk_len];omega,fun q hq=>hct q (pk_mem hE hS q hq),?_⟩
  show x.f0=6∨x.f0=7∨_
  omega
theorem rowV_pk {n B:Nat} {w w':World} {us:List Value} {xs:List VT} {v:Value} {s f st:Int} {k:Nat} (hE:EndsOk us.length s f st) (hS:Stops s f st k) (hl:us.length=xs.length) (hP: ∀i (h1:i<us.length) (h2:i<xs.length),PV B n w us[i] xs[i]) (hR:RW w' v (pk .nilIface us s st k)) (hb:Below w.heap.size w w'):RowV 0 w' (PV 0 n w') v (pk zVT xs s st k):=by
 obtain⟨A,c,rfl,hc,hcell⟩:=hR
 refine⟨A,c,_,rfl,hc,by rw[pk_len,pk_len],fun hne=>?_,fun i h1 h2=>?_⟩
 ·obtain⟨M,o,e,h⟩:=hcell hne
  exact⟨M,o,e,Nat.zero_le _,h⟩
 ·rw[pk_at,pk_at]
  rw[pk_len] at h1
  have hr:=ends_in hE i (hS.1 i h1)
  rw[List.getD_eq_getElem?_getD,List.getElem?_eq_getElem (by omega),List.getD_eq_getElem?_getD,List.getElem?_eq_getElem (by omega)]
  exact((hP _ (by omega) (by omega)).below hb).lower (Nat.zero_le _)
theorem sliced_c (n B:Nat) (v:Value) (x:VT) (s f st:Int) (w:World) (hv:PV B n w v x) (hc:CT n x) (h47:4≤x.f0∧x.f0≤7) (hE:EndsOk (lnV x) s f st) (hln:lnV x≤2147483647):
 Calls Tryz.prog 39 #[v, .int .i64 s, .int .i64 f, .int .i64 st] w fun e w'=> ∃u,e= .returned (.tuple #[u, .bool true])∧ ∃k,Stops s f st k∧PV 0 n w' u (slT x s st k)∧Below w.heap.size w w':=by
 by_cases h5:x.f0≤5
 ·have el:lnV x=x.f4.size:=by unfold lnV;rw[if_pos h5]
  rw[el] at hE hln
  obtain⟨s0,hs,hf,hsv⟩:=hv.to_s (by omega)
  have hkd:=hs.kind
  cases s0<;>simp[Sca.kind] at hkd<;>first|(exfalso;omega)|skip
  ·have e2:=(canon_str hs).2
   rename_i t
   subst e2
   cases hsv
   have hfin: ∀k w',Stops s f st k→Below w.heap.size w w'→PV 0 n w' (.iface 141 (.string (pkT x.f4 s st k))) (slT x s st k):=fun k w' hS hb=>by
    rw[slT_txt h5,hkd]
    refine PV.of_s ⟨.str (pkT x.f4 s st k),canon_flat ⟨by decide,by decide⟩ (by decide) ⟨by decide,by decide⟩ rfl (fun h _=>absurd rfl h),?_,rfl⟩ n
    have hk:=stops_len hE hS
    (show(pkT x.f4 s st k).size≤2147483647;rw[pkT_size];omega)
   refine slicedString_c (.string x.f4) x.f4.size s f st w _ (strLenT_c _ _) ?_ hE
   by_cases h1:st=1
   ·subst h1
    refine(strSlice1_c x.f4 s f w hE hln).mono ?_
    rintro e w' ⟨k,rfl,hS,hb⟩
    exact⟨_,rfl,k,hS,hfin k w' hS hb,hb⟩
   ·refine(strSliceN_c x.f4 s f st w hE h1 hln).mono ?_
    rintro e w' ⟨k,rfl,hS,hb⟩
    exact⟨_,rfl,k,hS,hfin k w' hS hb,hb⟩
  ·have e2:=(canon_bytes hs).2
   rename_i t
   subst e2
   cases hsv
   have hfin: ∀k w',Stops s f st k→Below w.heap.size w w'→PV 0 n w' (.iface 142 (.string (pkT x.f4 s st k))) (slT x s st k):=fun k w' hS hb=>by
    rw[slT_txt h5,hkd]
    refine PV.of_s ⟨.bytes (pkT x.f4 s st k),canon_flat ⟨by decide,by decide⟩ (by decide) ⟨by decide,by decide⟩ rfl (fun _ h=>absurd rfl h),?_,rfl⟩ n
    have hk:=stops_len hE hS
    (show(pkT x.f4 s st k).size≤2147483647;rw[pkT_size];omega)
   refine slicedBytes_c (.string x.f4) x.f4.size s f st w _ (bytLenT_c _ _) ?_ hE
   by_cases h1:st=1
   ·subst h1
    refine(bytSlice1_c x.f4 s f w hE hln).mono ?_
    rintro e w' ⟨k,rfl,hS,hb⟩
    exact⟨_,rfl,k,hS,hfin k w' hS hb,hb⟩
   ·refine(bytSliceN_c x.f4 s f st w hE h1 hln).mono ?_
    rintro e w' ⟨k,rfl,hS,hb⟩
    exact⟨_,rfl,k,hS,hfin k w' hS hb,hb⟩
 ·have el:lnV x=x.f5.length:=by unfold lnV;rw[if_neg h5]
  rw[el] at hE hln
  obtain⟨m,rfl,hbx,h16,hct,hq⟩:=hc.isBox (by omega)
  rcases hv with hv|⟨_,⟨k6,g,sl,rfl,hg,hl,hr⟩|⟨k7,sl,rfl,hr⟩|⟨k8,_⟩|⟨k9,_⟩⟩
  ·exfalso;have:=hv.kind;omega
  ·obtain⟨A,c,us,rfl,hle,hlen,hcell,hP⟩:=hr
   have hul:us.length=x.f5.length:=hlen
   have hif: ∀u∈us,∃T y,u= .iface T y:=by
    intro u hu
    obtain⟨i,hi,rfl⟩:=List.mem_iff_getElem.1 hu
    exact(hP i hi (by omega)).iface
   have hR:RW w (.slice A us.length c) us:=⟨A,c,rfl,hle,fun hne=>by obtain⟨M,o,e,_,hc⟩:=hcell hne;exact⟨M,o,e,hc⟩⟩
   rw[←hul] at hE
   have hfin: ∀v k g' w',Stops s f st k→LT w' g' v→RW w' v (pk .nilIface us s st k)→Below w.heap.size w w'→PV 0 (m+1) w' (.iface 82 (.pointer (some ⟨g',0,none⟩))) (slT x s st k):=fun v k g' w' hS hl hR hb=>by
    rw[slT_box h5]
    exact Or.inr ⟨⟨rfl,rfl,rfl,rfl⟩,Or.inl ⟨k6,g',v,rfl,Nat.zero_le _,hl,rowV_pk hE hS hul hP hR hb⟩⟩
   refine slicedList_c (.pointer (some ⟨g,0,none⟩)) us.length s f st w _ (listLen_c g us.length A c w hl) ?_ hE
   by_cases h1:st=1
   ·subst h1
    refine(listSlice1_c us g _ s f w hl hR hif hE (by omega)).mono ?_
    rintro e w' ⟨v,k,g',rfl,hS,hl',hR',hb⟩
    exact⟨_,rfl,k,hS,hfin v k g' w' hS hl' hR' hb,hb⟩
   ·refine(listSliceN_c us g _ s f st w hl hR hif hE h1 (by omega)).mono ?_
    rintro e w' ⟨v,k,g',rfl,hS,hl',hR',hb⟩
    exact⟨_,rfl,k,hS,hfin v k g' w' hS hl' hR' hb,hb⟩
  ·obtain⟨A,c,us,rfl,hle,hlen,hcell,hP⟩:=hr
   have hul:us.length=x.f5.length:=hlen
   have hif: ∀u∈us,∃T y,u= .iface T y:=by
    intro u hu
    obtain⟨i,hi,rfl⟩:=List.mem_iff_getElem.1 hu
    exact(hP i hi (by omega)).iface
   have hR:RW w (.slice A us.length c) us:=⟨A,c,rfl,hle,fun hne=>by obtain⟨M,o,e,_,hc⟩:=hcell hne;exact⟨M,o,e,hc⟩⟩
   rw[←hul] at hE
   have hfin: ∀v k w',Stops s f st k→RW w' v (pk .nilIface us s st k)→Below w.heap.size w w'→PV 0 (m+1) w' (.iface 98 v) (slT x s st k):=fun v k w' hS hR hb=>by
    rw[slT_box h5]
    exact Or.inr ⟨⟨rfl,rfl,rfl,rfl⟩,Or.inr (Or.inl ⟨k7,v,rfl,rowV_pk hE hS hul hP hR hb⟩)⟩
   refine slicedTuple_c (.slice A us.length c) us.length s f st w _ (tupLenRow_c A us.length c w) ?_ hE
   by_cases h1:st=1
   ·subst h1
    refine(tupSlice1_c us _ s f w hR hE (by omega)).mono ?_
    rintro e w' ⟨v,k,rfl,hS,hR',hb⟩
    exact⟨_,rfl,k,hS,hfin v k w' hS hR' hb,hb⟩
   ·refine(tupSliceN_c us _ s f st w hR hif hE h1 (by omega)).mono ?_
    rintro e w' ⟨v,k,rfl,hS,hR',hb⟩
    exact⟨_,rfl,k,hS,hfin v k w' hS hR' hb,hb⟩
  ·exfalso;omega
  ·exfalso;omega
def SliceR (n:Nat) (x:VT) (s f st:Int) (w:World) (e:Ending) (w':World):Prop:= ∃y A c A5 c5 k,e= .returned (.tuple #[.agg #[.int .i64 y.f0, .bool y.f1, .slice A y.f2.length c, .int .u64 y.f3, .string y.f4, .slice A5 y.f5.length c5], .bool true])∧Stops s f st k∧VR w' (.agg #[.int .i64 y.f0, .bool y.f1, .slice A y.f2.length c, .int .u64 y.f3, .string y.f4, .slice A5 y.f5.length c5]) y∧AL n (slT x s st k) y∧Below w.heap.size w w'
set_option maxRecDepth 100000 in
set_option maxHeartbeats 1000000 in
theorem implSlice_c (n:Nat) (hn:n≤8) (x:VT) (A2:Option Addr) (c2:Nat) (A5:Option Addr) (c5:Nat) (w:World) (s f st:Int) (hv:VR w (.agg (six5 x A2 c2 A5 x.f5.length c5)) x) (hc:CT n x) (h47:4≤x.f0∧x.f0≤7) (hE:EndsOk (lnV x) s f st) (hln:lnV x≤2147483647) (hT:Thr w) (hL:Lim w):
 Calls Tryz.prog 17 #[.agg (six5 x A2 c2 A5 x.f5.length c5), .int .i64 s, .int .i64 f, .int .i64 st] w (SliceR n x s f st w):=by
 obtain⟨W1,hW1⟩: ∃W,W=(w.alloc (.cells (six5 x A2 c2 A5 x.f5.length c5) 26)).alloc (.cells #[.int .i64 0, .bool false, .slice none 0 0, .int .u64 0, .string ⟨#[]⟩, .slice none 0 0] 26):=⟨_,rfl⟩
 obtain⟨hb1,k1,k2⟩:=two_new w (six5 x A2 c2 A5 x.f5.length c5) #[.int .i64 0, .bool false, .slice none 0 0, .int .u64 0, .string ⟨#[]⟩, .slice none 0 0]
 rw[←hW1] at hb1 k1 k2
 have hz1:W1.heap.size=w.heap.size+2:=by rw[hW1];simp
 have HV:=Lib.hid (value_c n hn x _ W1 (hv.below hb1) hc (hT.below hb1) (hL.below hb1))
 have HSl:Hid (∀v W,PV W1.heap.size n W v x→Calls Tryz.prog 39 #[v, .int .i64 s, .int .i64 f, .int .i64 st] W fun e w'=> ∃u,e= .returned (.tuple #[u, .bool true])∧ ∃k,Stops s f st k∧PV 0 n w' u (slT x s st k)∧Below W.heap.size W w'):=Lib.hid fun v W hv=>sliced_c n _ v x s f st W hv hc h47 hE hln
 have HTe:Hid (∀u k W,Stops s f st k→PV 0 n W u (slT x s st k)→Calls Tryz.prog 40 #[u] W (TellT n W (slT x s st k))):=Lib.hid fun u k W hS hv=>tell_c 0 n u _ W hv (slT_ct hc h47 hE hS)
 have HF:=Lib.hid (And.intro hb1 (And.intro hz1 k2))
 obtain⟨z0,z1,z2,z3,z4,z5⟩:=cells6 k1
 clear hv hc hT hL hb1 hz1 k1 k2
 go_enter Tryz.func17,Tryz.ntmps17
 go_upto_region 1 with fail
 rw[←hW1]
 clear hW1
 go_wp2_with (first
  |(go_at_call 27;(with_reducible refine HV.out.mono ?_);rintro e w2 ⟨v,rfl,hp,hb2⟩;have H2:=Lib.hid (And.intro hp hb2);clear hp hb2 z0 z1 z2 z3 z4 z5)
  |(go_at_call 39;(with_reducible refine(HSl.out _ _ H2.out.1).mono ?_);rintro e w3 ⟨u,rfl,k,hS,hp,hb3⟩;have H3:=Lib.hid (And.intro hS (And.intro hp hb3));clear hS hp hb3)
  |(go_at_call 40;(with_reducible refine(HTe.out _ _ _ H3.out.1 H3.out.2.1).mono ?_);rintro e w4 ⟨y,Q2,q2,Q5,q5,rfl,hev,hal,hb4⟩;have hB4:Below W1.heap.size W1 w4:=(H2.out.2.trans (H3.out.2.2.mono H2.out.2.size)).trans (hb4.mono (Nat.le_trans H2.out.2.size H3.out.2.2.size));have H4:=Lib.hid (And.intro (And.intro hev (Nat.le_trans H2.out.2.size H3.out.2.2.size)) (And.intro hal hB4));obtain⟨x0,x1,x2,x3,x4,x5⟩:=cells6 (blk_below HF.out.2.2 hB4);have hfz:=fun o=>blk_free (blk_below HF.out.2.2 hB4) o;clear hev hal hb4 hB4))
 refine bodyPost_ret (v:= .tuple #[.agg #[.int .i64 y.f0, .bool y.f1, .slice Q2 y.f2.length q2, .int .u64 y.f3, .string y.f4, .slice Q5 y.f5.length q5], .bool true]) (by simp[results,Tryz.results17,go_sem,x0,x1,x2,x3,x4,x5]) rfl ?_
 obtain⟨⟨hev,hle⟩,hal,hB4⟩:=H4.out
 have hz1:=HF.out.2.1
 have ha:=agr_put6 w4 (w.heap.size+1) (.int .i64 y.f0) (.bool y.f1) (.slice Q2 y.f2.length q2) (.int .u64 y.f3) (.string y.f4) (.slice Q5 y.f5.length q5)
 exact⟨y,Q2,q2,Q5,q5,k,rfl,H3.out.1,((hev.lower (by omega)).agr ha).vr,hal,below_put6 (HF.out.1.trans (hB4.mono HF.out.1.size)) (Nat.le_succ _) _ _ _ _ _ _⟩
end Go.Proofs.YtkplnbjgkhmbcaaGreatDoor
