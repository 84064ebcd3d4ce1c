/- EqB -/
import Derived.Test.YtkplnbjgkhmbcaaGreatDoorU16
namespace Go.Proofs.YtkplnbjgkhmbcaaGreatDoor
open Go.RowKit Go.Shelf Go.Proofs.YtkplnbjgkhmbcaaGreatDoorW.PrintWords Go.Proofs.YtkplnbjgkhmbcaaGreatDoorW.PrintLast Go.Proofs.YtkplnbjgkhmbcaaGreatDoorW.PrintMore Go.Proofs.YtkplnbjgkhmbcaaGreatDoor.PFnCompare Go.Proofs.YtkplnbjgkhmbcaaGreatDoor.PCmp Go.Proofs.YtkplnbjgkhmbcaaGreatDoor.PbytesOf
set_option linter.unusedVariables false
set_option linter.unusedSimpArgs false
def tname:Nat→ByteArray
 |0=>⟨#[78,111,110,101,84,121,112,101]⟩
 |1=>⟨#[98,111,111,108]⟩
 |2=>⟨#[105,110,116]⟩
 |3=>⟨#[102,108,111,97,116]⟩
 |4=>⟨#[115,116,114,105,110,103]⟩
 |5=>⟨#[98,121,116,101,115]⟩
 |6=>⟨#[108,105,115,116]⟩
 |7=>⟨#[116,117,112,108,101]⟩
 |8=>⟨#[100,105,99,116]⟩
 |_=>⟨#[115,101,116]⟩
theorem tname_eq: ∀i:Fin 10,∀j:Fin 10,((tname i.1).toList==(tname j.1).toList)=(i.1==j.1):=by decide+kernel
theorem methTypeList (v:Value) (w:World):(method 560 82 v "Type").run Tryz.prog w= .ok (283,v) w:=by kernel_rfl
theorem typeList_c (v:Value) (w:World):Calls Tryz.prog 283 #[v] w fun e w'=>e= .returned (.string (tname 6))∧Below w.heap.size w w':=by
 go_enter Tryz.func283,Tryz.ntmps283
 go_wp2
 go_ret
 exact⟨rfl,Below.refl _ w⟩
theorem nnList (v:Value):NotNum 82 v:=⟨fun w=>by kernel_rfl,fun w=>by kernel_rfl⟩
theorem a141List (v:Value) (w:World):(Instr.typeAssert (.iface 82 v) 57 141 true).run Tryz.prog w= .ok (.tuple #[.string ⟨#[]⟩, .bool false]) w:=by kernel_rfl
theorem as109List (v:Value) (w:World):(Instr.typeAssert (.iface 82 v) 57 109 true).run Tryz.prog w= .ok (.tuple #[.iface 82 v, .bool true]) w:=run_typeAssert_hasB Tryz.underlying109 (by kernel_rfl) v _ w
theorem methCmpList (v:Value) (w:World):(method 560 82 v "CompareSameType").run Tryz.prog w= .ok (277,v) w:=by kernel_rfl
theorem assertList1 (v:Value) (w:World):(Instr.typeAssert (.iface 82 v) 57 82 false).run Tryz.prog w= .ok v w:=by kernel_rfl
theorem methTypeTuple (v:Value) (w:World):(method 560 98 v "Type").run Tryz.prog w= .ok (294,v) w:=by kernel_rfl
theorem typeTuple_c (v:Value) (w:World):Calls Tryz.prog 294 #[v] w fun e w'=>e= .returned (.string (tname 7))∧Below w.heap.size w w':=by
 go_enter Tryz.func294,Tryz.ntmps294
 go_wp2
 go_ret
 exact⟨rfl,Below.refl _ w⟩
theorem nnTuple (v:Value):NotNum 98 v:=⟨fun w=>by kernel_rfl,fun w=>by kernel_rfl⟩
theorem a141Tuple (v:Value) (w:World):(Instr.typeAssert (.iface 98 v) 57 141 true).run Tryz.prog w= .ok (.tuple #[.string ⟨#[]⟩, .bool false]) w:=by kernel_rfl
theorem as109Tuple (v:Value) (w:World):(Instr.typeAssert (.iface 98 v) 57 109 true).run Tryz.prog w= .ok (.tuple #[.iface 98 v, .bool true]) w:=run_typeAssert_hasB Tryz.underlying109 (by kernel_rfl) v _ w
theorem methCmpTuple (v:Value) (w:World):(method 560 98 v "CompareSameType").run Tryz.prog w= .ok (287,v) w:=by kernel_rfl
theorem assertTuple1 (v:Value) (w:World):(Instr.typeAssert (.iface 98 v) 57 98 false).run Tryz.prog w= .ok v w:=by kernel_rfl
theorem methTypeDict (v:Value) (w:World):(method 560 99 v "Type").run Tryz.prog w= .ok (300,v) w:=by kernel_rfl
theorem typeDict_c (v:Value) (w:World):Calls Tryz.prog 300 #[v] w fun e w'=>e= .returned (.string (tname 8))∧Below w.heap.size w w':=by
 go_enter Tryz.func300,Tryz.ntmps300
 go_wp2
 go_ret
 exact⟨rfl,Below.refl _ w⟩
theorem nnDict (v:Value):NotNum 99 v:=⟨fun w=>by kernel_rfl,fun w=>by kernel_rfl⟩
theorem a141Dict (v:Value) (w:World):(Instr.typeAssert (.iface 99 v) 57 141 true).run Tryz.prog w= .ok (.tuple #[.string ⟨#[]⟩, .bool false]) w:=by kernel_rfl
theorem as109Dict (v:Value) (w:World):(Instr.typeAssert (.iface 99 v) 57 109 true).run Tryz.prog w= .ok (.tuple #[.iface 99 v, .bool true]) w:=run_typeAssert_hasB Tryz.underlying109 (by kernel_rfl) v _ w
theorem methCmpDict (v:Value) (w:World):(method 560 99 v "CompareSameType").run Tryz.prog w= .ok (295,v) w:=by kernel_rfl
theorem assertDict1 (v:Value) (w:World):(Instr.typeAssert (.iface 99 v) 57 99 false).run Tryz.prog w= .ok v w:=by kernel_rfl
theorem methTypeSet (v:Value) (w:World):(method 560 102 v "Type").run Tryz.prog w= .ok (309,v) w:=by kernel_rfl
theorem typeSet_c (v:Value) (w:World):Calls Tryz.prog 309 #[v] w fun e w'=>e= .returned (.string (tname 9))∧Below w.heap.size w w':=by
 go_enter Tryz.func309,Tryz.ntmps309
 go_wp2
 go_ret
 exact⟨rfl,Below.refl _ w⟩
theorem nnSet (v:Value):NotNum 102 v:=⟨fun w=>by kernel_rfl,fun w=>by kernel_rfl⟩
theorem a141Set (v:Value) (w:World):(Instr.typeAssert (.iface 102 v) 57 141 true).run Tryz.prog w= .ok (.tuple #[.string ⟨#[]⟩, .bool false]) w:=by kernel_rfl
theorem as109Set (v:Value) (w:World):(Instr.typeAssert (.iface 102 v) 57 109 true).run Tryz.prog w= .ok (.tuple #[.iface 102 v, .bool true]) w:=run_typeAssert_hasB Tryz.underlying109 (by kernel_rfl) v _ w
theorem methCmpSet (v:Value) (w:World):(method 560 102 v "CompareSameType").run Tryz.prog w= .ok (304,v) w:=by kernel_rfl
theorem assertSet1 (v:Value) (w:World):(Instr.typeAssert (.iface 102 v) 57 102 false).run Tryz.prog w= .ok v w:=by kernel_rfl
theorem typeAtP {B n:Nat} {w:World} {v:Value} {x:VT} (h:PV B n w v x): ∃T u K,v= .iface T u∧TypeAt T u (tname x.f0.toNat) K∧0≤x.f0∧x.f0<10:=by
 have hs:PVs B w v x→ ∃T u K,v= .iface T u∧TypeAt T u (tname x.f0.toNat) K∧0≤x.f0∧x.f0<10:=fun⟨s,hc,_,h⟩=>by
  obtain⟨T,u,K,e,ht⟩:=typeAt h
  refine⟨T,u,K,e,?_,by rw[hc.kind];cases s<;>simp[Sca.kind],by rw[hc.kind];cases s<;>simp[Sca.kind]⟩
  have hn:s.name=tname x.f0.toNat:=by rw[hc.kind];cases s<;>rfl
  rw[←hn]
  exact ht
 cases n with
 |zero=>exact hs h
 |succ n=>
  rcases h with h|⟨_,⟨hk,g,sl,rfl,_⟩|⟨hk,sl,rfl,_⟩|⟨hk,g,es,rfl,_⟩|⟨hk,g,es,rfl,_⟩⟩
  ·exact hs h
  all_goals rw[hk]
  ·exact⟨_,_,283,rfl,⟨methTypeList _,enters_of Tryz.func283 (by kernel_rfl) rfl,typeList_c _⟩,by decide,by decide⟩
  ·exact⟨_,_,294,rfl,⟨methTypeTuple _,enters_of Tryz.func294 (by kernel_rfl) rfl,typeTuple_c _⟩,by decide,by decide⟩
  ·exact⟨_,_,300,rfl,⟨methTypeDict _,enters_of Tryz.func300 (by kernel_rfl) rfl,typeDict_c _⟩,by decide,by decide⟩
  ·exact⟨_,_,309,rfl,⟨methTypeSet _,enters_of Tryz.func309 (by kernel_rfl) rfl,typeSet_c _⟩,by decide,by decide⟩
theorem sameTypeP_c {B1 B2 n1 n2:Nat} {v1 v2:Value} {x y:VT} {w:World} (h1:PV B1 n1 w v1 x) (h2:PV B2 n2 w v2 y):Calls Tryz.prog 60 #[v1,v2] w fun e w'=>e= .returned (.bool (x.f0==y.f0))∧Below w.heap.size w w':=by
 obtain⟨T1,u1,K1,rfl,t1,a1,b1⟩:=typeAtP h1
 obtain⟨T2,u2,K2,rfl,t2,a2,b2⟩:=typeAtP h2
 have e:=tname_eq ⟨x.f0.toNat,by omega⟩ ⟨y.f0.toNat,by omega⟩
 have e2:(x.f0.toNat==y.f0.toNat)=(x.f0==y.f0):=by rw[Bool.eq_iff_iff];simp;omega
 simp only at e
 rw[←e2,←e]
 exact sameTypeG_c T1 T2 K1 K2 u1 u2 _ _ w t1 t2
theorem notNumP {B n:Nat} {w:World} {v:Value} {x:VT} (h:PV B n w v x) (h2:x.f0≠2) (h3:x.f0≠3): ∃T u,v= .iface T u∧NotNum T u:=by
 have hs:PVs B w v x→ ∃T u,v= .iface T u∧NotNum T u:=fun⟨s,hc,_,h⟩=>by
  have hk:=hc.kind
  exact notNum h (by omega) (by omega)
 cases n with
 |zero=>exact hs h
 |succ n=>
  rcases h with h|⟨_,⟨hk,g,sl,rfl,_⟩|⟨hk,sl,rfl,_⟩|⟨hk,g,es,rfl,_⟩|⟨hk,g,es,rfl,_⟩⟩
  ·exact hs h
  ·exact⟨_,_,rfl,nnList _⟩
  ·exact⟨_,_,rfl,nnTuple _⟩
  ·exact⟨_,_,rfl,nnDict _⟩
  ·exact⟨_,_,rfl,nnSet _⟩
set_option maxRecDepth 100000 in
theorem cdCmp_c (T:TypeId) (K:FuncId) (x1 x2:Value) (op d:Int) (o:Option Bool) (w:World) (hd: ¬d<1) (hd2:d≤1000)
 (h109: ∀v w,(Instr.typeAssert (.iface T v) 57 109 true).run Tryz.prog w= .ok (.tuple #[.iface T v, .bool true]) w)
 (hm: ∀v w,(method 560 T v "CompareSameType").run Tryz.prog w= .ok (K,v) w) (he: ∀args w,(callFunc K args).run Tryz.prog w= .ok (.enter K args) w)
 (HS:Hid (Calls Tryz.prog 60 #[.iface T x1, .iface T x2] w fun e w'=>e= .returned (.bool true)∧Below w.heap.size w w'))
 (HC:Hid (∀W,Below w.heap.size w W→Calls Tryz.prog K #[x1, .int .i8 op, .iface T x2, .int .i64 d] W fun e W'=>CmpR o e∧Below W.heap.size W W')):
 Calls Tryz.prog 29 #[.int .i8 op, .iface T x1, .iface T x2, .int .i64 d] w fun e w'=>CmpR o e∧Below w.heap.size w w':=by
 cases o
 ·go_enter Tryz.func29,Tryz.ntmps29
  go_wp2_with (first
   |(go_at_call 60;(with_reducible refine HS.out.mono ?_);rintro e w1 ⟨rfl,hb1⟩;have HB:=Lib.hid hb1;clear hb1)
   |(go_at_fn K;(with_reducible refine(HC.out _ HB.out).mono ?_);rintro e w2 ⟨⟨T2,a2,rfl⟩,hb2⟩;replace HB:=Lib.hid (HB.out.trans (hb2.mono HB.out.size));clear hb2))
  go_ret2
  exact⟨⟨_,_,rfl⟩,HB.out⟩
 ·go_enter Tryz.func29,Tryz.ntmps29
  go_wp2_with (first
   |(go_at_call 60;(with_reducible refine HS.out.mono ?_);rintro e w1 ⟨rfl,hb1⟩;have HB:=Lib.hid hb1;clear hb1)
   |(go_at_fn K;(with_reducible refine(HC.out _ HB.out).mono ?_);rintro e w2 ⟨rfl,hb2⟩;replace HB:=Lib.hid (HB.out.trans (hb2.mono HB.out.size));clear hb2))
  go_ret2
  exact⟨rfl,HB.out⟩
set_option maxRecDepth 100000 in
theorem tupSame_c (s1 s2:Value) (op d:Int) (o:Option Bool) (w:World)
 (HC:Hid (Calls Tryz.prog 284 #[.int .i8 op,s1,s2, .int .i64 d] w fun e w'=>CmpR o e∧Below w.heap.size w w')):
 Calls Tryz.prog 287 #[s1, .int .i8 op, .iface 98 s2, .int .i64 d] w fun e w'=>CmpR o e∧Below w.heap.size w w':=by
 have hta:=assertTuple1
 cases o
 ·go_enter Tryz.func287,Tryz.ntmps287
  go_wp2_with (go_at_call 284;(with_reducible refine HC.out.mono ?_);rintro e w1 ⟨⟨T2,a2,rfl⟩,hb1⟩;have HB:=Lib.hid hb1;clear hb1)
  go_ret2
  exact⟨⟨_,_,rfl⟩,HB.out⟩
 ·go_enter Tryz.func287,Tryz.ntmps287
  go_wp2_with (go_at_call 284;(with_reducible refine HC.out.mono ?_);rintro e w1 ⟨rfl,hb1⟩;have HB:=Lib.hid hb1;clear hb1)
  go_ret2
  exact⟨rfl,HB.out⟩
end Go.Proofs.YtkplnbjgkhmbcaaGreatDoor
