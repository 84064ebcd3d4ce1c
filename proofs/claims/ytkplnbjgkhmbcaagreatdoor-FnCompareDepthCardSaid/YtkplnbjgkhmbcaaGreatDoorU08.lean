/- CmpD CmpE CmpF CmpG CmpH CmpI RemA RemB RemC RemD -/
import Derived.Test.YtkplnbjgkhmbcaaGreatDoorU07
import Derived.Stop.Asserts
import Derived.Deep.DeepCutAuto
import Derived.BigRegion
import Derived.LoopTactic
import Derived.Deep.RegionLaw
import Derived.Laws.IdiomCopy
import Derived.Deep.Upon
import Derived.OwnWalk
namespace Go.Proofs.YtkplnbjgkhmbcaaGreatDoor
open Go.RowKit Go.Shelf Go.Proofs.YtkplnbjgkhmbcaaGreatDoorW.PrintWords Go.Proofs.YtkplnbjgkhmbcaaGreatDoorW.PrintLast Go.Proofs.YtkplnbjgkhmbcaaGreatDoorW.PrintMore
set_option linter.unusedVariables false
set_option linter.unusedSimpArgs false
inductive Sca where
 |none|bool (b:Bool)|int (x:Int)|float (b:Nat)|str (s:ByteArray)|bytes (s:ByteArray)
def ScaV (B:Nat) (w:World) (v:Value):Sca→Prop
 | .none=>v= .iface 137 (.int .u8 0)
 | .bool b=>v= .iface 138 (.bool b)
 | .int x=> ∃u,v= .iface 122 u∧SIv B w u x
 | .float b=>v= .iface 123 (.float .f64 b)
 | .str s=>v= .iface 141 (.string s)
 | .bytes s=>v= .iface 142 (.string s)
def Sca.kind:Sca→Nat
 | .none=>0| .bool _=>1| .int _=>2| .float _=>3| .str _=>4| .bytes _=>5
def Sca.name:Sca→ByteArray
 | .none=>⟨#[78,111,110,101,84,121,112,101]⟩| .bool _=>⟨#[98,111,111,108]⟩| .int _=>⟨#[105,110,116]⟩| .float _=>⟨#[102,108,111,97,116]⟩| .str _=>⟨#[115,116,114,105,110,103]⟩| .bytes _=>⟨#[98,121,116,101,115]⟩
theorem methTypeNoneType (v:Value) (w:World):(method 560 137 v "Type").run Tryz.prog w= .ok (347,v) w:=by kernel_rfl
theorem methTypeBool (v:Value) (w:World):(method 560 138 v "Type").run Tryz.prog w= .ok (353,v) w:=by kernel_rfl
theorem methTypeInt (v:Value) (w:World):(method 560 122 v "Type").run Tryz.prog w= .ok (326,v) w:=by kernel_rfl
theorem methTypeFloat (v:Value) (w:World):(method 560 123 v "Type").run Tryz.prog w= .ok (334,v) w:=by kernel_rfl
theorem methTypeString (v:Value) (w:World):(method 560 141 v "Type").run Tryz.prog w= .ok (363,v) w:=by kernel_rfl
theorem methTypeBytes (v:Value) (w:World):(method 560 142 v "Type").run Tryz.prog w= .ok (377,v) w:=by kernel_rfl
theorem typeNoneType_c (v:Value) (w:World):Calls Tryz.prog 347 #[v] w fun e w'=>e= .returned (.string (Sca.none).name)∧Below w.heap.size w w':=by
 go_enter Tryz.func347,Tryz.ntmps347
 go_wp2
 go_ret
 exact⟨rfl,Below.refl _ w⟩
theorem typeBool_c (v:Value) (w:World):Calls Tryz.prog 353 #[v] w fun e w'=>e= .returned (.string ((Sca.bool true)).name)∧Below w.heap.size w w':=by
 go_enter Tryz.func353,Tryz.ntmps353
 go_wp2
 go_ret
 exact⟨rfl,Below.refl _ w⟩
theorem typeInt_c (y:Int) (p:Option Addr) (w:World):Calls Tryz.prog 326 #[(.agg #[.int .i64 y, .pointer p])] w fun e w'=>e= .returned (.string ((Sca.int 0)).name)∧Below w.heap.size w w':=by
 go_enter Tryz.func326,Tryz.ntmps326
 go_wp2
 go_ret
 exact⟨rfl,(Below.refl _ w).alloc (Nat.le_refl _) _⟩
theorem typeFloat_c (v:Value) (w:World):Calls Tryz.prog 334 #[v] w fun e w'=>e= .returned (.string ((Sca.float 0)).name)∧Below w.heap.size w w':=by
 go_enter Tryz.func334,Tryz.ntmps334
 go_wp2
 go_ret
 exact⟨rfl,Below.refl _ w⟩
theorem typeString_c (v:Value) (w:World):Calls Tryz.prog 363 #[v] w fun e w'=>e= .returned (.string ((Sca.str ⟨#[]⟩)).name)∧Below w.heap.size w w':=by
 go_enter Tryz.func363,Tryz.ntmps363
 go_wp2
 go_ret
 exact⟨rfl,Below.refl _ w⟩
theorem typeBytes_c (v:Value) (w:World):Calls Tryz.prog 377 #[v] w fun e w'=>e= .returned (.string ((Sca.bytes ⟨#[]⟩)).name)∧Below w.heap.size w w':=by
 go_enter Tryz.func377,Tryz.ntmps377
 go_wp2
 go_ret
 exact⟨rfl,Below.refl _ w⟩
def kname:Nat→ByteArray
 |0=>Sca.none.name|1=>(Sca.bool true).name|2=>(Sca.int 0).name|3=>(Sca.float 0).name|4=>(Sca.str ⟨#[]⟩).name|_=>(Sca.bytes ⟨#[]⟩).name
theorem name_kind (s:Sca):s.name=kname s.kind∧s.kind<6:=by cases s<;>exact⟨rfl,by show _<6;simp[Sca.kind]⟩
theorem kname_eq: ∀i:Fin 6,∀j:Fin 6,((kname i.1).toList==(kname j.1).toList)=(i.1==j.1):=by decide+kernel
theorem name_eq (s t:Sca):(s.name.toList==t.name.toList)=(s.kind==t.kind):=by
 rw[(name_kind s).1,(name_kind t).1]
 exact kname_eq ⟨s.kind,(name_kind s).2⟩ ⟨t.kind,(name_kind t).2⟩
structure TypeAt (T:TypeId) (x:Value) (n:ByteArray) (K:FuncId):Prop where
 m: ∀w,(method 560 T x "Type").run Tryz.prog w= .ok (K,x) w
 e: ∀args w,(callFunc K args).run Tryz.prog w= .ok (.enter K args) w
 c: ∀w,Calls Tryz.prog K #[x] w fun e w'=>e= .returned (.string n)∧Below w.heap.size w w'
theorem typeAt {B:Nat} {w:World} {v:Value} {s:Sca} (h:ScaV B w v s): ∃T x K,v= .iface T x∧TypeAt T x s.name K:=by
 cases s
 ·cases h
  exact⟨_,_,347,rfl,⟨methTypeNoneType _,enters_of Tryz.func347 (by kernel_rfl) rfl,typeNoneType_c _⟩⟩
 ·cases h
  exact⟨_,_,353,rfl,⟨methTypeBool _,enters_of Tryz.func353 (by kernel_rfl) rfl,typeBool_c _⟩⟩
 ·obtain⟨u,rfl,h⟩:=h;obtain⟨y,p,rfl⟩:=h.shape
  exact⟨_,_,326,rfl,⟨methTypeInt _,enters_of Tryz.func326 (by kernel_rfl) rfl,typeInt_c y p⟩⟩
 ·cases h
  exact⟨_,_,334,rfl,⟨methTypeFloat _,enters_of Tryz.func334 (by kernel_rfl) rfl,typeFloat_c _⟩⟩
 ·cases h
  exact⟨_,_,363,rfl,⟨methTypeString _,enters_of Tryz.func363 (by kernel_rfl) rfl,typeString_c _⟩⟩
 ·cases h
  exact⟨_,_,377,rfl,⟨methTypeBytes _,enters_of Tryz.func377 (by kernel_rfl) rfl,typeBytes_c _⟩⟩
set_option maxRecDepth 100000 in
theorem sameTypeG_c (T1 T2:TypeId) (K1 K2:FuncId) (x1 x2:Value) (n1 n2:ByteArray) (w:World) (h1:TypeAt T1 x1 n1 K1) (h2:TypeAt T2 x2 n2 K2):Calls Tryz.prog 60 #[.iface T1 x1, .iface T2 x2] w fun e w'=>e= .returned (.bool (n1.toList==n2.toList))∧Below w.heap.size w w':=by
 obtain⟨m1,e1,c1⟩:=h1
 obtain⟨m2,e2,c2⟩:=h2
 have HC1:=Lib.hid c1
 have HC2:=Lib.hid c2
 clear c1 c2
 go_enter Tryz.func60,Tryz.ntmps60
 go_wp2_with (first
  |(go_at_fn K1;(with_reducible refine(HC1.out _).mono ?_);rintro e w1 ⟨rfl,hb1⟩;have HB:=Lib.hid hb1;clear hb1)
  |(go_at_fn K2;(with_reducible refine(HC2.out _).mono ?_);rintro e w2 ⟨rfl,hb2⟩;replace HB:=Lib.hid (HB.out.trans (hb2.mono HB.out.size));clear hb2))
 go_ret
 exact⟨rfl,HB.out⟩
theorem sameType_c (B1 B2:Nat) (v1 v2:Value) (s t:Sca) (w:World) (h1:ScaV B1 w v1 s) (h2:ScaV B2 w v2 t):Calls Tryz.prog 60 #[v1,v2] w fun e w'=>e= .returned (.bool (s.kind==t.kind))∧Below w.heap.size w w':=by
 obtain⟨T1,x1,K1,rfl,g1⟩:=typeAt h1
 obtain⟨T2,x2,K2,rfl,g2⟩:=typeAt h2
 rw[←name_eq]
 exact sameTypeG_c T1 T2 K1 K2 x1 x2 _ _ w g1 g2
theorem as109NoneType (v:Value) (w:World):(Instr.typeAssert (.iface 137 v) 57 109 true).run Tryz.prog w= .ok (.tuple #[.nilIface, .bool false]) w:=run_typeAssert_lacksB Tryz.underlying109 (by kernel_rfl) (by kernel_rfl) v _ w
theorem as113NoneType (v:Value) (w:World):(Instr.typeAssert (.iface 137 v) 57 113 true).run Tryz.prog w= .ok (.tuple #[.nilIface, .bool false]) w:=run_typeAssert_lacksB Tryz.underlying113 (by kernel_rfl) (by kernel_rfl) v _ w
theorem as109Bool (v:Value) (w:World):(Instr.typeAssert (.iface 138 v) 57 109 true).run Tryz.prog w= .ok (.tuple #[.iface 138 v, .bool true]) w:=run_typeAssert_hasB Tryz.underlying109 (by kernel_rfl) v _ w
theorem methCmpBool (v:Value) (w:World):(method 560 138 v "CompareSameType").run Tryz.prog w= .ok (348,v) w:=by kernel_rfl
theorem as109Int (v:Value) (w:World):(Instr.typeAssert (.iface 122 v) 57 109 true).run Tryz.prog w= .ok (.tuple #[.nilIface, .bool false]) w:=run_typeAssert_lacksB Tryz.underlying109 (by kernel_rfl) (by kernel_rfl) v _ w
theorem as113Int (v:Value) (w:World):(Instr.typeAssert (.iface 122 v) 57 113 true).run Tryz.prog w= .ok (.tuple #[.iface 122 v, .bool true]) w:=run_typeAssert_hasB Tryz.underlying113 (by kernel_rfl) v _ w
theorem methCmpInt (v:Value) (w:World):(method 560 122 v "Cmp").run Tryz.prog w= .ok (321,v) w:=by kernel_rfl
theorem as109Float (v:Value) (w:World):(Instr.typeAssert (.iface 123 v) 57 109 true).run Tryz.prog w= .ok (.tuple #[.nilIface, .bool false]) w:=run_typeAssert_lacksB Tryz.underlying109 (by kernel_rfl) (by kernel_rfl) v _ w
theorem as113Float (v:Value) (w:World):(Instr.typeAssert (.iface 123 v) 57 113 true).run Tryz.prog w= .ok (.tuple #[.iface 123 v, .bool true]) w:=run_typeAssert_hasB Tryz.underlying113 (by kernel_rfl) v _ w
theorem methCmpFloat (v:Value) (w:World):(method 560 123 v "Cmp").run Tryz.prog w= .ok (329,v) w:=by kernel_rfl
theorem as109String (v:Value) (w:World):(Instr.typeAssert (.iface 141 v) 57 109 true).run Tryz.prog w= .ok (.tuple #[.iface 141 v, .bool true]) w:=run_typeAssert_hasB Tryz.underlying109 (by kernel_rfl) v _ w
theorem methCmpString (v:Value) (w:World):(method 560 141 v "CompareSameType").run Tryz.prog w= .ok (355,v) w:=by kernel_rfl
theorem as109Bytes (v:Value) (w:World):(Instr.typeAssert (.iface 142 v) 57 109 true).run Tryz.prog w= .ok (.tuple #[.iface 142 v, .bool true]) w:=run_typeAssert_hasB Tryz.underlying109 (by kernel_rfl) v _ w
theorem methCmpBytes (v:Value) (w:World):(method 560 142 v "CompareSameType").run Tryz.prog w= .ok (369,v) w:=by kernel_rfl
set_option maxRecDepth 100000 in
theorem cdBool_c (op:Int) (a b:Bool) (d:Int) (w:World) (ho:OpOk op) (hd: ¬d<1) (hd2:d≤1000):Calls Tryz.prog 29 #[.int .i8 op, .iface 138 (.bool a), .iface 138 (.bool b), .int .i64 d] w fun e w'=>e= .returned (.tuple #[.bool (tw op ((if a then 1 else 0)-(if b then 1 else 0))), .nilIface])∧Below w.heap.size w w':=by
 have h109:=as109Bool
 have hm:=methCmpBool
 have HS:Hid (Calls Tryz.prog 60 #[_,_] w fun e w'=>e= .returned (.bool true)∧Below w.heap.size w w'):=Lib.hid (sameType_c 0 0 _ _ (Sca.bool a) (Sca.bool b) w rfl rfl)
 have HC:=Lib.hid (fun d w=>boolSame_c op a b d w ho)
 clear ho
 go_enter Tryz.func29,Tryz.ntmps29
 go_wp2_with (first
  |(go_at_call 60;(with_reducible refine HS.out.mono ?_);rintro e w1 ⟨rfl,hb1⟩;have HB:=Lib.hid hb1;clear hb1)
  |(go_at_call 348;(with_reducible refine(HC.out _ _).mono ?_);rintro e w2 ⟨rfl,rfl⟩))
 all_goals go_ret2
 all_goals exact⟨rfl,HB.out⟩
set_option maxRecDepth 100000 in
theorem cdString_c (op:Int) (a b:ByteArray) (d:Int) (w:World) (ho:OpOk op) (hd: ¬d<1) (hd2:d≤1000):Calls Tryz.prog 29 #[.int .i8 op, .iface 141 (.string a), .iface 141 (.string b), .int .i64 d] w fun e w'=>e= .returned (.tuple #[.bool (tw op (Lib.compareBytes a.data.toList b.data.toList)), .nilIface])∧Below w.heap.size w w':=by
 have h109:=as109String
 have hm:=methCmpString
 have HS:Hid (Calls Tryz.prog 60 #[_,_] w fun e w'=>e= .returned (.bool true)∧Below w.heap.size w w'):=Lib.hid (sameType_c 0 0 _ _ (Sca.str a) (Sca.str b) w rfl rfl)
 have HC:=Lib.hid (fun d w=>stringSame_c op a b d w ho)
 clear ho
 go_enter Tryz.func29,Tryz.ntmps29
 go_wp2_with (first
  |(go_at_call 60;(with_reducible refine HS.out.mono ?_);rintro e w1 ⟨rfl,hb1⟩;have HB:=Lib.hid hb1;clear hb1)
  |(go_at_call 355;(with_reducible refine(HC.out _ _).mono ?_);rintro e w2 ⟨rfl,rfl⟩))
 all_goals go_ret2
 all_goals exact⟨rfl,HB.out⟩
set_option maxRecDepth 100000 in
theorem cdBytes_c (op:Int) (a b:ByteArray) (d:Int) (w:World) (ho:OpOk op) (hd: ¬d<1) (hd2:d≤1000):Calls Tryz.prog 29 #[.int .i8 op, .iface 142 (.string a), .iface 142 (.string b), .int .i64 d] w fun e w'=>e= .returned (.tuple #[.bool (tw op (Lib.compareBytes a.data.toList b.data.toList)), .nilIface])∧Below w.heap.size w w':=by
 have h109:=as109Bytes
 have hm:=methCmpBytes
 have HS:Hid (Calls Tryz.prog 60 #[_,_] w fun e w'=>e= .returned (.bool true)∧Below w.heap.size w w'):=Lib.hid (sameType_c 0 0 _ _ (Sca.bytes a) (Sca.bytes b) w rfl rfl)
 have HC:=Lib.hid (fun d w=>bytesSame_c op a b d w ho)
 clear ho
 go_enter Tryz.func29,Tryz.ntmps29
 go_wp2_with (first
  |(go_at_call 60;(with_reducible refine HS.out.mono ?_);rintro e w1 ⟨rfl,hb1⟩;have HB:=Lib.hid hb1;clear hb1)
  |(go_at_call 369;(with_reducible refine(HC.out _ _).mono ?_);rintro e w2 ⟨rfl,rfl⟩))
 all_goals go_ret2
 all_goals exact⟨rfl,HB.out⟩
theorem fcmp_vals (a b:Nat):fcmpF a b= -1∨fcmpF a b=0∨fcmpF a b=1:=by
 unfold fcmpF
 generalize f64ord a b=o
 generalize (fdat a).isNaN=p
 generalize (fdat b).isNaN=q
 rcases o with _|o
 ·cases p<;>cases q<;>simp[fcmpO]
 ·cases o<;>simp[fcmpO]
set_option maxRecDepth 100000 in
theorem cdFloat_c (op:Int) (a b:Nat) (d:Int) (w:World) (ho:OpOk op) (hd: ¬d<1) (hd2:d≤1000):Calls Tryz.prog 29 #[.int .i8 op, .iface 123 (.float .f64 a), .iface 123 (.float .f64 b), .int .i64 d] w fun e w'=>e= .returned (.tuple #[.bool (tw op (fcmpF a b)), .nilIface])∧Below w.heap.size w w':=by
 have h109:=as109Float
 have h113:=as113Float
 have hm:=methCmpFloat
 have HS:Hid (Calls Tryz.prog 60 #[_,_] w fun e w'=>e= .returned (.bool true)∧Below w.heap.size w w'):=Lib.hid (sameType_c 0 0 _ _ (Sca.float a) (Sca.float b) w rfl rfl)
 have HT:=Lib.hid (fun w=>threeway_c op (fcmpF a b) w ho (fcmp_vals a b))
 clear ho
 go_enter Tryz.func29,Tryz.ntmps29
 go_wp2_with (first
  |(go_at_call 60;(with_reducible refine HS.out.mono ?_);rintro e w1 ⟨rfl,hb1⟩;have HB:=Lib.hid hb1;clear hb1)
  |(go_at_call 329;(with_reducible refine(floatCmpM_c _ _ _ _).mono ?_);rintro e w2 ⟨rfl,rfl⟩)
  |(go_at_call 61;(with_reducible refine(HT.out _).mono ?_);rintro e w2 ⟨rfl,rfl⟩))
 go_ret2
 exact⟨rfl,HB.out⟩
set_option maxRecDepth 100000 in
theorem cdInt_c (B1 B2:Nat) (u1 u2:Value) (x y:Int) (op d:Int) (w:World) (ho:OpOk op) (hd: ¬d<1) (hd2:d≤1000) (h1:SIv B1 w u1 x) (h2:SIv B2 w u2 y) (hx:x.natAbs<256^60) (hy:y.natAbs<256^60)
 (hne: ∀g1 g2,u1= .agg #[.int .i64 0, .pointer (some ⟨g1,0,none⟩)]→u2= .agg #[.int .i64 0, .pointer (some ⟨g2,0,none⟩)]→g1≠g2):Calls Tryz.prog 29 #[.int .i8 op, .iface 122 u1, .iface 122 u2, .int .i64 d] w fun e w'=>e= .returned (.tuple #[.bool (tw op (sgn (x-y))), .nilIface])∧Below w.heap.size w w':=by
 have h109:=as109Int
 have h113:=as113Int
 have hm:=methCmpInt
 have HS:Hid (Calls Tryz.prog 60 #[_,_] w fun e w'=>e= .returned (.bool true)∧Below w.heap.size w w'):=Lib.hid (sameType_c B1 B2 _ _ (Sca.int x) (Sca.int y) w ⟨_,rfl,h1⟩ ⟨_,rfl,h2⟩)
 have HT:=Lib.hid (fun w=>threeway_c op (sgn (x-y)) w ho (sgn_vals _))
 have HC:=Lib.hid (fun w' d (hb:Below w.heap.size w w')=>icmp_c B1 B2 u1 u2 x y d w' (h1.below hb) (h2.below hb) hx hy hne)
 clear ho h1 h2 hx hy hne
 go_enter Tryz.func29,Tryz.ntmps29
 go_wp2_with (first
  |(go_at_call 60;(with_reducible refine HS.out.mono ?_);rintro e w1 ⟨rfl,hb1⟩;have HB:=Lib.hid hb1;clear hb1)
  |(go_at_call 321;(with_reducible refine(HC.out _ _ HB.out).mono ?_);rintro e w2 ⟨rfl,hb2⟩;replace HB:=Lib.hid (HB.out.trans (hb2.mono HB.out.size));clear hb2)
  |(go_at_call 61;(with_reducible refine(HT.out _).mono ?_);rintro e w2 ⟨rfl,rfl⟩))
 go_ret2
 exact⟨rfl,HB.out⟩
theorem eqlNone (w:World):(binOp .eql 57 (.iface 137 (.int .u8 0)) (.iface 137 (.int .u8 0))).run Tryz.prog w= .ok (.bool true) w:=by kernel_rfl
set_option maxRecDepth 100000 in
theorem cdNone_c (d:Int) (w:World) (hd: ¬d<1) (hd2:d≤1000):Calls Tryz.prog 29 #[.int .i8 37, .iface 137 (.int .u8 0), .iface 137 (.int .u8 0), .int .i64 d] w fun e w'=>e= .returned (.tuple #[.bool true, .nilIface])∧Below w.heap.size w w':=by
 have h109:=as109NoneType
 have h113:=as113NoneType
 have hq:=eqlNone
 have HS:Hid (Calls Tryz.prog 60 #[_,_] w fun e w'=>e= .returned (.bool true)∧Below w.heap.size w w'):=Lib.hid (sameType_c 0 0 _ _ Sca.none Sca.none w rfl rfl)
 go_enter Tryz.func29,Tryz.ntmps29
 go_wp2_with (go_at_call 60;(with_reducible refine HS.out.mono ?_);rintro e w1 ⟨rfl,hb1⟩;have HB:=Lib.hid hb1;clear hb1)
 go_ret2
 exact⟨rfl,HB.out⟩
def finfA (b:Nat):Bool:=finf false b||finf true b
theorem abs_mask (b:Nat) (hb:b<18446744073709551616):bits .andNot .u64 (b:Int) 9223372036854775808=((b%9223372036854775808:Nat):Int):=by
 have:=u64_andNot_nat b 9223372036854775808 hb (by omega)
 have h2:=Nat.and_two_pow_sub_one_eq_mod b 63
 simp at this h2
 rw[h2] at this
 exact this
theorem mabs_c (b:Nat) (w:World) (hb:b<18446744073709551616):Calls Tryz.prog 97 #[.float .f64 b] w fun e w'=>e= .returned (.float .f64 (b%9223372036854775808))∧w'=w:=by
 have k1:=call_bits
 have k2:=call_float
 have k3:=abs_mask b hb
 clear hb
 go_enter Tryz.func97,Tryz.ntmps97
 go_wp2
 go_ret
 exact⟨by simp,rfl⟩
theorem abs_dat (b:Nat) (hb:b<18446744073709551616):(match fdat (b%9223372036854775808) with| .infinity s=>!s|_=>false)=finfA b:=by
 have hcase:b%9223372036854775808=b∧fneg b=false∨b%9223372036854775808=b^^^9223372036854775808∧fneg b=true:=by
  by_cases h:b<9223372036854775808
  ·left;exact⟨Nat.mod_eq_of_lt h,by simp[fneg];omega⟩
  ·right
   refine⟨?_,by simp[fneg];omega⟩
   have e1:(b^^^9223372036854775808)%9223372036854775808=b%9223372036854775808:=by
    have:=Nat.xor_mod_two_pow (a:=b) (b:=9223372036854775808) (n:=63)
    simpa using this
   have e2:(b^^^9223372036854775808)/9223372036854775808=(b/9223372036854775808)^^^1:=by
    have:=Nat.shiftRight_xor_distrib (a:=b) (b:=9223372036854775808) (i:=63)
    simpa [Nat.shiftRight_eq_div_pow] using this
   rw[show b/9223372036854775808=1 by omega] at e2
   have e3:(1:Nat)^^^1=0:=rfl
   omega
 have hs: ∀s,fdat b= .infinity s→s=fneg b:=by
  intro s h
  rcases fcase b hb with⟨s2,m,p,h2,_⟩|⟨s2,h2,hs⟩|⟨s2,f,h2⟩
  ·rw[h] at h2;cases h2
  ·rw[h] at h2;cases h2;exact hs
  ·rw[h] at h2;cases h2
 unfold finfA finf
 rcases hcase with⟨h,hn⟩|⟨h,hn⟩
 ·rw[h]
  cases hd:fdat b with
  |infinity s=>rw[hs s hd,hn];rfl
  |number _ _ _=>rfl
  |nan _ _=>rfl
 ·rw[h,(read_neg b hb).1]
  cases hd:fdat b with
  |infinity s=>rw[hs s hd,hn];rfl
  |number _ _ _=>rfl
  |nan _ _=>rfl
set_option maxRecDepth 100000 in
theorem isInf0_c (b:Nat) (w:World) (hb:b<18446744073709551616):Calls Tryz.prog 62 #[.float .f64 b, .int .i64 0] w fun e w'=>e= .returned (.bool (finfA b))∧w'=w:=by
 have HH:Hid ((f64ord (b%9223372036854775808) 9218868437227405311==some .gt)=finfA b):=by
  refine Lib.hid ?_
  rw[above_max _ (by omega)];exact abs_dat b hb
 have HA:=Lib.hid (fun w=>mabs_c b w hb)
 clear hb
 go_enter Tryz.func62,Tryz.ntmps62
 go_wp2_with (go_at_call 97;(with_reducible refine(HA.out _).mono ?_);rintro e w1 ⟨rfl,rfl⟩)
 go_ret
 exact⟨congrArg (fun z=>Ending.returned (.bool z)) HH.out,rfl⟩
theorem as122Float (v:Value) (w:World):(Instr.typeAssert (.iface 123 v) 57 122 true).run Tryz.prog w= .ok (.tuple #[.agg #[.int .i64 0, .pointer none], .bool false]) w:=by kernel_rfl
theorem as122Int (v:Value) (w:World):(Instr.typeAssert (.iface 122 v) 57 122 true).run Tryz.prog w= .ok (.tuple #[v, .bool true]) w:=by kernel_rfl
theorem as123Float (v:Value) (w:World):(Instr.typeAssert (.iface 123 v) 57 123 true).run Tryz.prog w= .ok (.tuple #[v, .bool true]) w:=by kernel_rfl
theorem ordzero (b:Nat) (s:Bool) (h:fdat b= .infinity s):f64ord b 0=some (if s then .lt else .gt):=by
 rw[ord_dat,h,fdat_sub 0 (by omega) rfl]
 cases s<;>rfl
set_option maxRecDepth 100000 in
theorem cdIntFloatI_c (y:Int) (p:Option Addr) (x:Int) (b:Nat) (op d:Int) (s:Bool) (w:World) (ho:OpOk op) (hd: ¬d<1) (hd2:d≤1000) (hb:b<18446744073709551616) (hf:fdat b= .infinity s)
 (HS:Hid (Calls Tryz.prog 60 #[.iface 122 (.agg #[.int .i64 y, .pointer p]), .iface 123 (.float .f64 b)] w fun e w'=>e= .returned (.bool false)∧Below w.heap.size w w')):Calls Tryz.prog 29 #[.int .i8 op, .iface 122 (.agg #[.int .i64 y, .pointer p]), .iface 123 (.float .f64 b), .int .i64 d] w fun e w'=>e= .returned (.tuple #[.bool (tw op (icmpF x b)), .nilIface])∧Below w.heap.size w w':=by
 have ha1:=as122Int
 have ha2:=as123Float
 have hz:FloatKind.f64.format.order b 0=some (if s then .lt else .gt):=ordzero b s hf
 have he:FloatKind.f64.format.order b b=some .eq:=by
  have:=(ord_three b b).2.2.2.1 (by rw[hf];rfl)
  exact this
 have hc:icmpF x b=if s then 1 else-1:=by unfold icmpF;rw[hf]
 rw[hc]
 have HI:Hid (∀w,Calls Tryz.prog 62 #[.float .f64 b, .int .i64 0] w fun e w'=>e= .returned (.bool true)∧w'=w):=Lib.hid fun w=>by
  have:=isInf0_c b w hb
  rw[show finfA b=true by unfold finfA finf;rw[hf];cases s<;>rfl] at this
  exact this
 have HT:=Lib.hid (fun c w hc=>threeway_c op c w ho hc)
 clear ho hb hf hc
 cases s
 all_goals
  simp only[if_true,if_false,Bool.false_eq_true,reduceIte] at hz⊢
  go_enter Tryz.func29,Tryz.ntmps29
  go_wp2_with (first
   |(go_at_call 60;(with_reducible refine HS.out.mono ?_);rintro e w1 ⟨rfl,hb1⟩;have HB:=Lib.hid hb1;clear hb1)
   |(go_at_call 62;(with_reducible refine(HI.out _).mono ?_);rintro e w2 ⟨rfl,rfl⟩)
   |(go_at_call 61;(with_reducible refine(HT.out _ _ (by decide)).mono ?_);rintro e w2 ⟨rfl,rfl⟩))
  go_ret2
  exact⟨rfl,HB.out.alloc HB.out.size _⟩
theorem ratJoin_c (x:Int) (s:Bool) (m:Nat) (p:Int) (g1 g2:Nat) (n1 n2:Bool) (va vb vc vd:Value) (xs ns bs:List Int) (w:World) (h1:RT w g1 n1 va xs vb [1]) (z1:xs=[]→n1=false) (e1:bval n1 xs=x) (l1:xs.length≤1000)
 (h2:RT w g2 n2 vc ns vd bs) (z2:ns=[]→n2=false) (e2:bval n2 ns*2^(-p).toNat=smag s m*2^p.toNat*leN bs) (b2:0<leN bs) (l2:ns.length≤39) (l3:bs.length≤39) (ne:bs≠[]) (hT:Thr w):
 (Calls Tryz.prog 64 #[.pointer (some ⟨g1,0,none⟩), .pointer (some ⟨g2,0,none⟩)] w fun e w'=>e= .returned (.int .i64 (sgn (x*2^(-p).toNat-smag s m*2^p.toNat)))∧Below w.heap.size w w')∧
 (Calls Tryz.prog 64 #[.pointer (some ⟨g2,0,none⟩), .pointer (some ⟨g1,0,none⟩)] w fun e w'=>e= .returned (.int .i64 (-sgn (x*2^(-p).toNat-smag s m*2^p.toNat)))∧Below w.heap.size w w'):=by
 have hj:=rat_cmp x (bval n2 ns) (leN bs) (smag s m) p b2 e2
 constructor
 ·have:=ratCmp_c g1 g2 n1 n2 va vb vc vd xs [1] ns bs w h1 h2 z1 z2 (by simp) ne l1 (by omega) (by simp) l3 hT
  rw[leN_one,Int.mul_one,e1,hj] at this
  exact this
 ·have:=ratCmp_c g2 g1 n2 n1 vc vd va vb ns bs xs [1] w h2 h1 z2 z1 ne (by simp) (by omega) l1 l3 (by simp) hT
  rw[leN_one,Int.mul_one,e1,show bval n2 ns-x*leN bs= -(x*leN bs-bval n2 ns) by omega,sgn_neg,hj] at this
  exact this
set_option maxRecDepth 100000 in
theorem cdIntFloatN_c (B:Nat) (y:Int) (p:Option Addr) (x:Int) (b:Nat) (op d:Int) (s:Bool) (m:Nat) (q:Int) (w:World) (ho:OpOk op) (hd: ¬d<1) (hd2:d≤1000) (hb:b<18446744073709551616) (hf:fdat b= .number s m q) (h:SIv B w (.agg #[.int .i64 y, .pointer p]) x) (hx:x.natAbs<256^60) (hT:Thr w)
 (HS:Hid (Calls Tryz.prog 60 #[.iface 122 (.agg #[.int .i64 y, .pointer p]), .iface 123 (.float .f64 b)] w fun e w'=>e= .returned (.bool false)∧Below w.heap.size w w')):Calls Tryz.prog 29 #[.int .i8 op, .iface 122 (.agg #[.int .i64 y, .pointer p]), .iface 123 (.float .f64 b), .int .i64 d] w fun e w'=>e= .returned (.tuple #[.bool (tw op (icmpF x b)), .nilIface])∧Below w.heap.size w w':=by
 have ha1:=as122Int
 have ha2:=as123Float
 have he:FloatKind.f64.format.order b b=some .eq:=by
  have:=(ord_three b b).2.2.2.1 (by rw[hf];rfl)
  exact this
 have hc:icmpF x b=sgn (x*2^(-q).toNat-smag s m*2^q.toNat):=by unfold icmpF;rw[hf]
 rw[hc]
 have HI:Hid (∀w,Calls Tryz.prog 62 #[.float .f64 b, .int .i64 0] w fun e w'=>e= .returned (.bool false)∧w'=w):=Lib.hid fun w=>by
  have:=isInf0_c b w hb
  rw[show finfA b=false by unfold finfA finf;rw[hf];rfl] at this
  exact this
 have HT:=Lib.hid (fun w=>threeway_c op (sgn (x*2^(-q).toNat-smag s m*2^q.toNat)) w ho (sgn_vals _))
 have HR:=Lib.hid (fun W (hb:Below w.heap.size w W)=>irational_c B _ x W (h.below hb) hx)
 have HQ:=Lib.hid (fun W=>frational_c b W hb s m q hf)
 have HTh:=Lib.hid (fun W (hb:Below w.heap.size w W)=>hT.below hb)
 clear ho hb hf hc h hx hT
 go_enter Tryz.func29,Tryz.ntmps29
 go_wp2_with (first
  |(go_at_call 60;(with_reducible refine HS.out.mono ?_);rintro e w1 ⟨rfl,hb1⟩;have HB:=Lib.hid hb1;clear hb1)
  |(go_at_call 62;(with_reducible refine(HI.out _).mono ?_);rintro e w2 ⟨rfl,rfl⟩)
  |(go_at_call 63;(with_reducible refine(HR.out _ (HB.out.alloc HB.out.size _)).mono ?_);rintro e w2 ⟨g1,n1,va,xs,vb,hg1,rfl,k1,k2,k3,k4,hb2⟩;have HA:=Lib.hid (And.intro k1 (And.intro k2 (And.intro k3 k4)));replace HB:=Lib.hid ((HB.out.alloc HB.out.size _).trans (hb2.mono (HB.out.alloc HB.out.size _).size));clear k1 k2 k3 k4 hb2 hg1)
  |(go_at_call 65;(with_reducible refine(HQ.out _).mono ?_);rintro e w3 ⟨g2,n2,vc,ns,vd,bs,hg2,rfl,k1,k2,k3,k4,k5,k6,k7,hb3,_⟩;have HJ:=Lib.hid (ratJoin_c x s m q g1 g2 n1 n2 va vb vc vd xs ns bs w3 (HA.out.1.below hb3) HA.out.2.1 HA.out.2.2.1 HA.out.2.2.2 k1 k2 k3 k4 k5 k6 k7 (HTh.out _ (HB.out.trans (hb3.mono HB.out.size))));replace HB:=Lib.hid (HB.out.trans (hb3.mono HB.out.size));clear k1 k2 k3 k4 k5 k6 k7 hb3 hg2)
  |(go_at_call 64;(with_reducible refine HJ.out.1.mono ?_);rintro e w4 ⟨rfl,hb4⟩;replace HB:=Lib.hid (HB.out.trans (hb4.mono HB.out.size));clear hb4)
  |(go_at_call 61;(with_reducible refine(HT.out _).mono ?_);rintro e w2 ⟨rfl,rfl⟩))
 go_ret2
 exact⟨rfl,HB.out⟩
set_option maxRecDepth 100000 in
theorem cdIntFloatZ_c (y:Int) (p:Option Addr) (x:Int) (b:Nat) (op d:Int) (s:Bool) (f:Nat) (w:World) (ho:OpOk op) (hd: ¬d<1) (hd2:d≤1000) (hf:fdat b= .nan s f)
 (HS:Hid (Calls Tryz.prog 60 #[.iface 122 (.agg #[.int .i64 y, .pointer p]), .iface 123 (.float .f64 b)] w fun e w'=>e= .returned (.bool false)∧Below w.heap.size w w')):Calls Tryz.prog 29 #[.int .i8 op, .iface 122 (.agg #[.int .i64 y, .pointer p]), .iface 123 (.float .f64 b), .int .i64 d] w fun e w'=>e= .returned (.tuple #[.bool (tw op (icmpF x b)), .nilIface])∧Below w.heap.size w w':=by
 have ha1:=as122Int
 have ha2:=as123Float
 have he:FloatKind.f64.format.order b b=none:=by
  have:=((ord_three b b).2.1 (by rw[hf];rfl)).1
  exact this
 have hc:icmpF x b= -1:=by unfold icmpF;rw[hf]
 rw[hc]
 have HT:=Lib.hid (fun w=>threeway_c op (-1) w ho (by decide))
 clear ho hf hc
 go_enter Tryz.func29,Tryz.ntmps29
 go_wp2_with (first
  |(go_at_call 60;(with_reducible refine HS.out.mono ?_);rintro e w1 ⟨rfl,hb1⟩;have HB:=Lib.hid hb1;clear hb1)
  |(go_at_call 61;(with_reducible refine(HT.out _).mono ?_);rintro e w2 ⟨rfl,rfl⟩))
 go_ret2
 exact⟨rfl,HB.out.alloc HB.out.size _⟩
theorem cdIntFloat_c (B:Nat) (u:Value) (x:Int) (b:Nat) (op d:Int) (w:World) (ho:OpOk op) (hd: ¬d<1) (hd2:d≤1000) (hb:b<18446744073709551616) (h:SIv B w u x) (hx:x.natAbs<256^60) (hT:Thr w):Calls Tryz.prog 29 #[.int .i8 op, .iface 122 u, .iface 123 (.float .f64 b), .int .i64 d] w fun e w'=>e= .returned (.tuple #[.bool (tw op (icmpF x b)), .nilIface])∧Below w.heap.size w w':=by
 obtain⟨y,p,rfl⟩:=h.shape
 have HS:Hid (Calls Tryz.prog 60 #[.iface 122 (.agg #[.int .i64 y, .pointer p]), .iface 123 (.float .f64 b)] w fun e w'=>e= .returned (.bool false)∧Below w.heap.size w w'):=Lib.hid (sameType_c B 0 _ _ (Sca.int x) (Sca.float b) w ⟨_,rfl,h⟩ rfl)
 rcases fcase b hb with⟨s,m,q,hf,_⟩|⟨s,hf,_⟩|⟨s,f,hf⟩
 ·exact cdIntFloatN_c B y p x b op d s m q w ho hd hd2 hb hf h hx hT HS
 ·exact cdIntFloatI_c y p x b op d s w ho hd hd2 hb hf HS
 ·exact cdIntFloatZ_c y p x b op d s f w ho hd hd2 hf HS
set_option maxRecDepth 100000 in
set_option maxHeartbeats 1000000 in
theorem cdFloatIntN_c (B:Nat) (y:Int) (p:Option Addr) (x:Int) (b:Nat) (op d:Int) (s:Bool) (m:Nat) (q:Int) (w:World) (ho:OpOk op) (hd: ¬d<1) (hd2:d≤1000) (hb:b<18446744073709551616) (hf:fdat b= .number s m q) (h:SIv B w (.agg #[.int .i64 y, .pointer p]) x) (hx:x.natAbs<256^60) (hT:Thr w)
 (HS:Hid (Calls Tryz.prog 60 #[.iface 123 (.float .f64 b), .iface 122 (.agg #[.int .i64 y, .pointer p])] w fun e w'=>e= .returned (.bool false)∧Below w.heap.size w w')):Calls Tryz.prog 29 #[.int .i8 op, .iface 123 (.float .f64 b), .iface 122 (.agg #[.int .i64 y, .pointer p]), .int .i64 d] w fun e w'=>e= .returned (.tuple #[.bool (tw op (-icmpF x b)), .nilIface])∧Below w.heap.size w w':=by
 have ha1:=as122Int
 have ha2:=as123Float
 have ha3:=as122Float
 have he:FloatKind.f64.format.order b b=some .eq:=by
  have:=(ord_three b b).2.2.2.1 (by rw[hf];rfl)
  exact this
 have hc:icmpF x b=sgn (x*2^(-q).toNat-smag s m*2^q.toNat):=by unfold icmpF;rw[hf]
 rw[hc]
 have HI:Hid (∀w,Calls Tryz.prog 62 #[.float .f64 b, .int .i64 0] w fun e w'=>e= .returned (.bool false)∧w'=w):=Lib.hid fun w=>by
  have:=isInf0_c b w hb
  rw[show finfA b=false by unfold finfA finf;rw[hf];rfl] at this
  exact this
 have HT:=Lib.hid (fun w=>threeway_c op (-sgn (x*2^(-q).toNat-smag s m*2^q.toNat)) w ho (by have:=sgn_vals (x*2^(-q).toNat-smag s m*2^q.toNat);omega))
 have HR:=Lib.hid (fun W (hb:Below w.heap.size w W)=>irational_c B _ x W (h.below hb) hx)
 have HQ:=Lib.hid (fun W=>frational_c b W hb s m q hf)
 have HTh:=Lib.hid (fun W (hb:Below w.heap.size w W)=>hT.below hb)
 clear ho hb hf hc h hx hT
 go_enter Tryz.func29,Tryz.ntmps29
 go_upto_region 37 with(go_at_call 60;(with_reducible refine HS.out.mono ?_);rintro e w1 ⟨rfl,hb1⟩;have HB:=Lib.hid hb1;clear hb1)
 have HK:Hid ((w1.alloc (.cells #[.int .i64 y, .pointer p] 122)).heap[w1.heap.size]?=some (.cells #[.int .i64 y, .pointer p] 122 (0,0))):=Lib.hid (blk_new _ _)
 replace HB:=Lib.hid (HB.out.alloc HB.out.size (.cells #[.int .i64 y, .pointer p] 122))
 obtain⟨W,hW⟩: ∃W,W=w1.alloc (.cells #[.int .i64 y, .pointer p] 122):=⟨_,rfl⟩
 rw[←hW] at HK HB⊢
 clear hW
 go_upto_region 41 with(go_at_call 62;(with_reducible refine(HI.out _).mono ?_);rintro e w2 ⟨rfl,rfl⟩)
 have c1:=blk_cell HK.out 0 _ rfl
 have c2:=blk_cell HK.out 1 _ rfl
 go_region_with (first
  |(go_at_call 65;(with_reducible refine(HQ.out _).mono ?_);rintro e w3 ⟨g2,n2,vc,ns,vd,bs,hg2,rfl,k1,k2,k3,k4,k5,k6,k7,hb3,_⟩;have HA:=Lib.hid (And.intro k1 (And.intro k2 (And.intro k3 (And.intro k4 (And.intro k5 (And.intro k6 k7))))));replace HB:=Lib.hid (HB.out.drew.trans (hb3.mono HB.out.drew.size));replace HK:=Lib.hid (blk_below HK.out ((Below.refl _ _).drew.trans hb3));clear k1 k2 k3 k4 k5 k6 k7 hb3 hg2 c1 c2;have c1:=blk_cell HK.out 0 _ rfl;have c2:=blk_cell HK.out 1 _ rfl)
  |(go_at_call 63;(with_reducible refine(HR.out _ HB.out).mono ?_);rintro e w4 ⟨g1,n1,va,xs,vb,hg1,rfl,k1,k2,k3,k4,hb2⟩;have HJ:=Lib.hid (ratJoin_c x s m q g1 g2 n1 n2 va vb vc vd xs ns bs w4 k1 k2 k3 k4 (HA.out.1.below hb2) HA.out.2.1 HA.out.2.2.1 HA.out.2.2.2.1 HA.out.2.2.2.2.1 HA.out.2.2.2.2.2.1 HA.out.2.2.2.2.2.2 (HTh.out _ (HB.out.trans (hb2.mono HB.out.size)))).2;replace HB:=Lib.hid (HB.out.trans (hb2.mono HB.out.size));clear k1 k2 k3 k4 hb2 hg1 c1 c2)
  |(go_at_call 64;(with_reducible refine HJ.out.mono ?_);rintro e w5 ⟨rfl,hb4⟩;replace HB:=Lib.hid (HB.out.trans (hb4.mono HB.out.size));clear hb4))
 all_goals go_wp2_with (go_at_call 61;(with_reducible refine(HT.out _).mono ?_);rintro e w6 ⟨rfl,rfl⟩)
 all_goals go_ret2
 all_goals exact⟨rfl,HB.out⟩
set_option maxRecDepth 100000 in
theorem cdFloatIntI_c (y:Int) (p:Option Addr) (x:Int) (b:Nat) (op d:Int) (s:Bool) (w:World) (ho:OpOk op) (hd: ¬d<1) (hd2:d≤1000) (hb:b<18446744073709551616) (hf:fdat b= .infinity s)
 (HS:Hid (Calls Tryz.prog 60 #[.iface 123 (.float .f64 b), .iface 122 (.agg #[.int .i64 y, .pointer p])] w fun e w'=>e= .returned (.bool false)∧Below w.heap.size w w')):Calls Tryz.prog 29 #[.int .i8 op, .iface 123 (.float .f64 b), .iface 122 (.agg #[.int .i64 y, .pointer p]), .int .i64 d] w fun e w'=>e= .returned (.tuple #[.bool (tw op (-icmpF x b)), .nilIface])∧Below w.heap.size w w':=by
 have ha1:=as122Int
 have ha2:=as123Float
 have ha3:=as122Float
 have hz:FloatKind.f64.format.order b 0=some (if s then .lt else .gt):=ordzero b s hf
 have he:FloatKind.f64.format.order b b=some .eq:=by
  have:=(ord_three b b).2.2.2.1 (by rw[hf];rfl)
  exact this
 have hc: -icmpF x b=if s then-1 else 1:=by unfold icmpF;rw[hf];cases s<;>rfl
 rw[hc]
 have HI:Hid (∀w,Calls Tryz.prog 62 #[.float .f64 b, .int .i64 0] w fun e w'=>e= .returned (.bool true)∧w'=w):=Lib.hid fun w=>by
  have:=isInf0_c b w hb
  rw[show finfA b=true by unfold finfA finf;rw[hf];cases s<;>rfl] at this
  exact this
 have HT:=Lib.hid (fun c w hc=>threeway_c op c w ho hc)
 clear ho hb hf hc
 cases s
 all_goals
  simp only[if_true,if_false,Bool.false_eq_true,reduceIte] at hz⊢
  go_enter Tryz.func29,Tryz.ntmps29
  go_wp2_with (first
   |(go_at_call 60;(with_reducible refine HS.out.mono ?_);rintro e w1 ⟨rfl,hb1⟩;have HB:=Lib.hid hb1;clear hb1)
   |(go_at_call 62;(with_reducible refine(HI.out _).mono ?_);rintro e w2 ⟨rfl,rfl⟩)
   |(go_at_call 61;(with_reducible refine(HT.out _ _ (by decide)).mono ?_);rintro e w2 ⟨rfl,rfl⟩))
  go_ret2
  exact⟨rfl,HB.out.alloc HB.out.size _⟩
set_option maxRecDepth 100000 in
theorem cdFloatIntZ_c (y:Int) (p:Option Addr) (x:Int) (b:Nat) (op d:Int) (s:Bool) (f:Nat) (w:World) (ho:OpOk op) (hd: ¬d<1) (hd2:d≤1000) (hf:fdat b= .nan s f)
 (HS:Hid (Calls Tryz.prog 60 #[.iface 123 (.float .f64 b), .iface 122 (.agg #[.int .i64 y, .pointer p])] w fun e w'=>e= .returned (.bool false)∧Below w.heap.size w w')):Calls Tryz.prog 29 #[.int .i8 op, .iface 123 (.float .f64 b), .iface 122 (.agg #[.int .i64 y, .pointer p]), .int .i64 d] w fun e w'=>e= .returned (.tuple #[.bool (tw op (-icmpF x b)), .nilIface])∧Below w.heap.size w w':=by
 have ha1:=as122Int
 have ha2:=as123Float
 have ha3:=as122Float
 have he:FloatKind.f64.format.order b b=none:=by
  have:=((ord_three b b).2.1 (by rw[hf];rfl)).1
  exact this
 have hc: -icmpF x b=1:=by unfold icmpF;rw[hf];rfl
 rw[hc]
 have HT:=Lib.hid (fun w=>threeway_c op 1 w ho (by decide))
 clear ho hf hc
 go_enter Tryz.func29,Tryz.ntmps29
 go_wp2_with (first
  |(go_at_call 60;(with_reducible refine HS.out.mono ?_);rintro e w1 ⟨rfl,hb1⟩;have HB:=Lib.hid hb1;clear hb1)
  |(go_at_call 61;(with_reducible refine(HT.out _).mono ?_);rintro e w2 ⟨rfl,rfl⟩))
 go_ret2
 exact⟨rfl,HB.out.alloc HB.out.size _⟩
theorem cdFloatInt_c (B:Nat) (u:Value) (x:Int) (b:Nat) (op d:Int) (w:World) (ho:OpOk op) (hd: ¬d<1) (hd2:d≤1000) (hb:b<18446744073709551616) (h:SIv B w u x) (hx:x.natAbs<256^60) (hT:Thr w):Calls Tryz.prog 29 #[.int .i8 op, .iface 123 (.float .f64 b), .iface 122 u, .int .i64 d] w fun e w'=>e= .returned (.tuple #[.bool (tw op (-icmpF x b)), .nilIface])∧Below w.heap.size w w':=by
 obtain⟨y,p,rfl⟩:=h.shape
 have HS:Hid (Calls Tryz.prog 60 #[.iface 123 (.float .f64 b), .iface 122 (.agg #[.int .i64 y, .pointer p])] w fun e w'=>e= .returned (.bool false)∧Below w.heap.size w w'):=Lib.hid (sameType_c 0 B _ _ (Sca.float b) (Sca.int x) w rfl ⟨_,rfl,h⟩)
 rcases fcase b hb with⟨s,m,q,hf,_⟩|⟨s,hf,_⟩|⟨s,f,hf⟩
 ·exact cdFloatIntN_c B y p x b op d s m q w ho hd hd2 hb hf h hx hT HS
 ·exact cdFloatIntI_c y p x b op d s w ho hd hd2 hb hf HS
 ·exact cdFloatIntZ_c y p x b op d s f w ho hd hd2 hf HS
theorem run_eql_iface_strB {P:Program} (w:World) {t tx:TypeId} {ms:Array (String×TypeId)} (a b:ByteArray)
 (ht:P.underlying t=some (.interface ms)) (hc:(P.info? tx).map (·.comparable)=some true) (hx:P.underlying tx=some .string):
 (binOp .eql t (.iface tx (.string a)) (.iface tx (.string b))).run P w= .ok (.bool (a==b)) w:=by
 cases hi:P.info? tx with
 |none=>simp[hi] at hc
 |some i=>
  have hcc:i.comparable=true:=by simpa [hi] using hc
  have h: ∀d:Nat,(Op.equalIn (d+2) t (.iface tx (.string a)) (.iface tx (.string b))).run P w= .ok (a==b) w:=fun d=>by
   simp[Op.equalIn,run_underlying ht,run_underlying hx,typeInfo,hi,hcc]
  simp only[binOp]
  simp[Op.equal,Op.maxDepth,h 9998]
theorem eqlStr (a b:ByteArray) (w:World):(binOp .eql 57 (.iface 141 (.string a)) (.iface 141 (.string b))).run Tryz.prog w= .ok (.bool (a==b)) w:=
 run_eql_iface_strB w a b Tryz.underlying57 (by kernel_rfl) Tryz.underlying141
theorem eqlStrO (T:TypeId) (a:ByteArray) (v:Value) (w:World) (h:141≠T):(binOp .eql 57 (.iface 141 (.string a)) (.iface T v)).run Tryz.prog w= .ok (.bool false) w:=
 run_eql_iface_types _ _ _ _ Tryz.underlying57 h w
structure NotNum (T:TypeId) (x:Value):Prop where
 a: ∀w,(Instr.typeAssert (.iface T x) 57 122 true).run Tryz.prog w= .ok (.tuple #[.agg #[.int .i64 0, .pointer none], .bool false]) w
 b: ∀w,(Instr.typeAssert (.iface T x) 57 123 true).run Tryz.prog w= .ok (.tuple #[.float .f64 0, .bool false]) w
theorem nnNone (v:Value):NotNum 137 v:=⟨fun w=>by kernel_rfl,fun w=>by kernel_rfl⟩
theorem nnBool (v:Value):NotNum 138 v:=⟨fun w=>by kernel_rfl,fun w=>by kernel_rfl⟩
theorem nnString (v:Value):NotNum 141 v:=⟨fun w=>by kernel_rfl,fun w=>by kernel_rfl⟩
theorem nnBytes (v:Value):NotNum 142 v:=⟨fun w=>by kernel_rfl,fun w=>by kernel_rfl⟩
set_option maxRecDepth 100000 in
theorem cdOther_c (T1 T2:TypeId) (x1 x2:Value) (d:Int) (w:World) (hd: ¬d<1) (hd2:d≤1000) (h1:NotNum T1 x1)
 (HS:Hid (Calls Tryz.prog 60 #[.iface T1 x1, .iface T2 x2] w fun e w'=>e= .returned (.bool false)∧Below w.heap.size w w')):Calls Tryz.prog 29 #[.int .i8 37, .iface T1 x1, .iface T2 x2, .int .i64 d] w fun e w'=>e= .returned (.tuple #[.bool false, .nilIface])∧Below w.heap.size w w':=by
 obtain⟨ha1,ha2⟩:=h1
 go_enter Tryz.func29,Tryz.ntmps29
 go_wp2_with (go_at_call 60;(with_reducible refine HS.out.mono ?_);rintro e w1 ⟨rfl,hb1⟩;have HB:=Lib.hid hb1;clear hb1)
 go_ret2
 exact⟨rfl,HB.out⟩
set_option maxRecDepth 100000 in
theorem cdIntO_c (T2:TypeId) (y:Int) (p:Option Addr) (x2:Value) (d:Int) (w:World) (hd: ¬d<1) (hd2:d≤1000) (h1:NotNum T2 x2)
 (HS:Hid (Calls Tryz.prog 60 #[.iface 122 (.agg #[.int .i64 y, .pointer p]), .iface T2 x2] w fun e w'=>e= .returned (.bool false)∧Below w.heap.size w w')):Calls Tryz.prog 29 #[.int .i8 37, .iface 122 (.agg #[.int .i64 y, .pointer p]), .iface T2 x2, .int .i64 d] w fun e w'=>e= .returned (.tuple #[.bool false, .nilIface])∧Below w.heap.size w w':=by
 obtain⟨ha1,ha2⟩:=h1
 have ha3:=as122Int
 go_enter Tryz.func29,Tryz.ntmps29
 go_wp2_with (go_at_call 60;(with_reducible refine HS.out.mono ?_);rintro e w1 ⟨rfl,hb1⟩;have HB:=Lib.hid hb1;clear hb1)
 go_ret2
 exact⟨rfl,HB.out.alloc HB.out.size _⟩
set_option maxRecDepth 100000 in
theorem cdFloatO_c (T2:TypeId) (b:Nat) (x2:Value) (d:Int) (w:World) (hd: ¬d<1) (hd2:d≤1000) (h1:NotNum T2 x2)
 (HS:Hid (Calls Tryz.prog 60 #[.iface 123 (.float .f64 b), .iface T2 x2] w fun e w'=>e= .returned (.bool false)∧Below w.heap.size w w')):Calls Tryz.prog 29 #[.int .i8 37, .iface 123 (.float .f64 b), .iface T2 x2, .int .i64 d] w fun e w'=>e= .returned (.tuple #[.bool false, .nilIface])∧Below w.heap.size w w':=by
 obtain⟨ha1,ha2⟩:=h1
 have ha3:=as122Float
 have ha4:=as123Float
 go_enter Tryz.func29,Tryz.ntmps29
 go_wp2_with (go_at_call 60;(with_reducible refine HS.out.mono ?_);rintro e w1 ⟨rfl,hb1⟩;have HB:=Lib.hid hb1;clear hb1)
 go_ret2
 exact⟨rfl,HB.out.alloc HB.out.size _⟩
def eqS:Sca→Sca→Bool
 | .none, .none=>true
 | .bool a, .bool b=>a==b
 | .int x, .int y=>sgn (x-y)==0
 | .float a, .float b=>fcmpF a b==0
 | .int x, .float b=>icmpF x b==0
 | .float a, .int y=>(-icmpF y a)==0
 | .str a, .str b=>a==b
 | .bytes a, .bytes b=>Lib.compareBytes a.data.toList b.data.toList==0
 |_,_=>false
def Sca.fit:Sca→Prop
 | .int x=>x.natAbs<256^60
 | .float b=>b<18446744073709551616
 | .str s=>s.size≤2147483647
 | .bytes s=>s.size≤2147483647
 |_=>True
def Apart (v1 v2:Value):Prop:= ∀g1 g2,v1= .iface 122 (.agg #[.int .i64 0, .pointer (some ⟨g1,0,none⟩)])→v2= .iface 122 (.agg #[.int .i64 0, .pointer (some ⟨g2,0,none⟩)])→g1≠g2
theorem notNum {B:Nat} {w:World} {v:Value} {s:Sca} (h:ScaV B w v s) (h2:s.kind≠2) (h3:s.kind≠3): ∃T x,v= .iface T x∧NotNum T x:=by
 cases s
 ·cases h;exact⟨_,_,rfl,nnNone _⟩
 ·cases h;exact⟨_,_,rfl,nnBool _⟩
 ·exact absurd rfl h2
 ·exact absurd rfl h3
 ·cases h;exact⟨_,_,rfl,nnString _⟩
 ·cases h;exact⟨_,_,rfl,nnBytes _⟩
theorem okEq:OpOk 37:=Or.inl rfl
theorem cdEq_c (B1 B2:Nat) (v1 v2:Value) (s t:Sca) (d:Int) (w:World) (hd: ¬d<1) (hd2:d≤1000) (h1:ScaV B1 w v1 s) (h2:ScaV B2 w v2 t) (f1:s.fit) (f2:t.fit) (ha:Apart v1 v2) (hT:Thr w) (hns: ¬(s.kind=4)):
 Calls Tryz.prog 29 #[.int .i8 37,v1,v2, .int .i64 d] w fun e w'=>e= .returned (.tuple #[.bool (eqS s t), .nilIface])∧Below w.heap.size w w':=by
 have hs:=sameType_c B1 B2 v1 v2 s t w h1 h2
 by_cases hk:s.kind=t.kind
 ·cases s<;>cases t<;>simp[Sca.kind] at hk hns
  ·cases h1;cases h2;exact cdNone_c d w hd hd2
  ·cases h1;cases h2
   rename_i a b
   have:=cdBool_c 37 a b d w okEq hd hd2
   rw[show tw 37 ((if a=true then 1 else 0)-if b=true then 1 else 0)=eqS (.bool a) (.bool b) by cases a<;>cases b<;>rfl] at this
   exact this
  ·obtain⟨u1,rfl,k1⟩:=h1
   obtain⟨u2,rfl,k2⟩:=h2
   exact cdInt_c B1 B2 u1 u2 _ _ 37 d w okEq hd hd2 k1 k2 f1 f2 (fun g1 g2 e1 e2=>ha g1 g2 (by rw[e1]) (by rw[e2]))
  ·cases h1;cases h2;exact cdFloat_c 37 _ _ d w okEq hd hd2
  ·cases h1;cases h2;exact cdBytes_c 37 _ _ d w okEq hd hd2
 ·rw[show(s.kind==t.kind)=false by simp[hk]] at hs
  by_cases k2:s.kind=2
  ·cases s<;>simp[Sca.kind] at k2
   obtain⟨u1,rfl,g1⟩:=h1
   by_cases k3:t.kind=3
   ·cases t<;>simp[Sca.kind] at k3
    cases h2
    exact cdIntFloat_c B1 u1 _ _ 37 d w okEq hd hd2 f2 g1 f1 hT
   ·obtain⟨T,x,rfl,hn⟩:=notNum h2 (fun e=>hk e.symm) k3
    obtain⟨y,p,rfl⟩:=g1.shape
    rw[show eqS (.int _) t=false by cases t<;>first|rfl|exact absurd rfl hk|exact absurd rfl k3]
    exact cdIntO_c T y p x d w hd hd2 hn (Lib.hid hs)
  ·by_cases k3:s.kind=3
   ·cases s<;>simp[Sca.kind] at k3
    cases h1
    by_cases k4:t.kind=2
    ·cases t<;>simp[Sca.kind] at k4
     obtain⟨u2,rfl,g2⟩:=h2
     exact cdFloatInt_c B2 u2 _ _ 37 d w okEq hd hd2 f1 g2 f2 hT
    ·obtain⟨T,x,rfl,hn⟩:=notNum h2 k4 (fun e=>hk e.symm)
     rw[show eqS (.float _) t=false by cases t<;>first|rfl|exact absurd rfl hk|exact absurd rfl k4]
     exact cdFloatO_c T _ x d w hd hd2 hn (Lib.hid hs)
   ·obtain⟨T,x,rfl,hn⟩:=notNum h1 k2 k3
    obtain⟨T2,x2,K2,rfl,_⟩:=typeAt h2
    rw[show eqS s t=false by cases s<;>cases t<;>first|rfl|exact absurd rfl hk|exact absurd rfl k2|exact absurd rfl k3]
    exact cdOther_c T T2 x x2 d w hd hd2 hn (Lib.hid hs)
def Lim (w:World):Prop:=w.cell? ⟨0,0,none⟩=some (.int .i64 10)
theorem Lim.below {w w':World} (h:Lim w) (hb:Below w.heap.size w w'):Lim w':=(hb.cell (p:=⟨0,0,none⟩) (lt_of_cell h)).trans h
theorem as141String (v:Value) (w:World):(Instr.typeAssert (.iface 141 v) 57 141 true).run Tryz.prog w= .ok (.tuple #[v, .bool true]) w:=by kernel_rfl
theorem a141NoneType (v:Value) (w:World):(Instr.typeAssert (.iface 137 v) 57 141 true).run Tryz.prog w= .ok (.tuple #[.string ⟨#[]⟩, .bool false]) w:=by kernel_rfl
theorem a141Bool (v:Value) (w:World):(Instr.typeAssert (.iface 138 v) 57 141 true).run Tryz.prog w= .ok (.tuple #[.string ⟨#[]⟩, .bool false]) w:=by kernel_rfl
theorem a141Int (v:Value) (w:World):(Instr.typeAssert (.iface 122 v) 57 141 true).run Tryz.prog w= .ok (.tuple #[.string ⟨#[]⟩, .bool false]) w:=by kernel_rfl
theorem a141Float (v:Value) (w:World):(Instr.typeAssert (.iface 123 v) 57 141 true).run Tryz.prog w= .ok (.tuple #[.string ⟨#[]⟩, .bool false]) w:=by kernel_rfl
theorem a141Bytes (v:Value) (w:World):(Instr.typeAssert (.iface 142 v) 57 141 true).run Tryz.prog w= .ok (.tuple #[.string ⟨#[]⟩, .bool false]) w:=by kernel_rfl
theorem as141O {B:Nat} {w0:World} {v:Value} {s:Sca} (h:ScaV B w0 v s) (hk: ¬s.kind=4) (w:World):(Instr.typeAssert v 57 141 true).run Tryz.prog w= .ok (.tuple #[.string ⟨#[]⟩, .bool false]) w:=by
 cases s
 ·cases h;exact a141NoneType _ w
 ·cases h;exact a141Bool _ w
 ·obtain⟨u,rfl,_⟩:=h;exact a141Int _ w
 ·cases h;exact a141Float _ w
 ·exact absurd rfl hk
 ·cases h;exact a141Bytes _ w
set_option maxRecDepth 100000 in
theorem equalDepth_c (v1 v2:Value) (b:Bool) (d:Int) (w:World) (HC:Hid (Calls Tryz.prog 29 #[.int .i8 37,v1,v2, .int .i64 d] w fun e w'=>e= .returned (.tuple #[.bool b, .nilIface])∧Below w.heap.size w w')):
 Calls Tryz.prog 149 #[v1,v2, .int .i64 d] w fun e w'=>e= .returned (.tuple #[.bool b, .nilIface])∧Below w.heap.size w w':=by
 go_enter Tryz.func149,Tryz.ntmps149
 go_wp2_with (go_at_call 29;(with_reducible refine HC.out.mono ?_);rintro e w1 ⟨rfl,hb1⟩;have HB:=Lib.hid hb1;clear hb1)
 go_ret2
 exact⟨rfl,HB.out⟩
def LT (w:World) (g:Nat) (v:Value):Prop:=w.heap[g]?=some (.cells #[v, .bool false, .int .u32 0] 167 (0,0))
theorem valInfo:(Tryz.prog.info? 57).map (fun i=>(i.zero,i.size,i.bytes))=some (some .nilIface,1,16):=by kernel_rfl
end Go.Proofs.YtkplnbjgkhmbcaaGreatDoor
