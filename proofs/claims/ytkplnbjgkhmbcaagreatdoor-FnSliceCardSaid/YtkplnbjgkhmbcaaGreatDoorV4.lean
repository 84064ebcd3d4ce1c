/- SlJ SlK -/
import Derived.Test.YtkplnbjgkhmbcaaGreatDoorV2
import Derived.Test.YtkplnbjgkhmbcaaGreatDoorV3
namespace Go.Proofs.YtkplnbjgkhmbcaaGreatDoor
open Go.RowKit Go.Shelf Go.Proofs.YtkplnbjgkhmbcaaGreatDoorW.PrintWords Go.Proofs.YtkplnbjgkhmbcaaGreatDoorW.PrintLast Go.Proofs.YtkplnbjgkhmbcaaGreatDoorW.PrintMore Go.Proofs.YtkplnbjgkhmbcaaGreatDoor.PFnCompare Go.Proofs.YtkplnbjgkhmbcaaGreatDoor.PCmp Go.Proofs.YtkplnbjgkhmbcaaGreatDoor.PbytesOf
set_option linter.unusedVariables false
set_option linter.unusedSimpArgs false
theorem tbListNoneType (v:Value) (w:World):(Instr.typeAssert (.iface 82 v) 57 137 true).run Tryz.prog w= .ok (.tuple #[.int .u8 0, .bool false]) w:=by kernel_rfl
theorem tbListBool (v:Value) (w:World):(Instr.typeAssert (.iface 82 v) 57 138 true).run Tryz.prog w= .ok (.tuple #[.bool false, .bool false]) w:=by kernel_rfl
theorem tbListInt (v:Value) (w:World):(Instr.typeAssert (.iface 82 v) 57 122 true).run Tryz.prog w= .ok (.tuple #[.agg #[.int .i64 0, .pointer none], .bool false]) w:=by kernel_rfl
theorem tbListFloat (v:Value) (w:World):(Instr.typeAssert (.iface 82 v) 57 123 true).run Tryz.prog w= .ok (.tuple #[.float .f64 0, .bool false]) w:=by kernel_rfl
theorem tbListString (v:Value) (w:World):(Instr.typeAssert (.iface 82 v) 57 141 true).run Tryz.prog w= .ok (.tuple #[.string ⟨#[]⟩, .bool false]) w:=by kernel_rfl
theorem tbListBytes (v:Value) (w:World):(Instr.typeAssert (.iface 82 v) 57 142 true).run Tryz.prog w= .ok (.tuple #[.string ⟨#[]⟩, .bool false]) w:=by kernel_rfl
theorem tbListList (v:Value) (w:World):(Instr.typeAssert (.iface 82 v) 57 82 true).run Tryz.prog w= .ok (.tuple #[v, .bool true]) w:=by kernel_rfl
theorem tbTupleNoneType (v:Value) (w:World):(Instr.typeAssert (.iface 98 v) 57 137 true).run Tryz.prog w= .ok (.tuple #[.int .u8 0, .bool false]) w:=by kernel_rfl
theorem tbTupleBool (v:Value) (w:World):(Instr.typeAssert (.iface 98 v) 57 138 true).run Tryz.prog w= .ok (.tuple #[.bool false, .bool false]) w:=by kernel_rfl
theorem tbTupleInt (v:Value) (w:World):(Instr.typeAssert (.iface 98 v) 57 122 true).run Tryz.prog w= .ok (.tuple #[.agg #[.int .i64 0, .pointer none], .bool false]) w:=by kernel_rfl
theorem tbTupleFloat (v:Value) (w:World):(Instr.typeAssert (.iface 98 v) 57 123 true).run Tryz.prog w= .ok (.tuple #[.float .f64 0, .bool false]) w:=by kernel_rfl
theorem tbTupleString (v:Value) (w:World):(Instr.typeAssert (.iface 98 v) 57 141 true).run Tryz.prog w= .ok (.tuple #[.string ⟨#[]⟩, .bool false]) w:=by kernel_rfl
theorem tbTupleBytes (v:Value) (w:World):(Instr.typeAssert (.iface 98 v) 57 142 true).run Tryz.prog w= .ok (.tuple #[.string ⟨#[]⟩, .bool false]) w:=by kernel_rfl
theorem tbTupleList (v:Value) (w:World):(Instr.typeAssert (.iface 98 v) 57 82 true).run Tryz.prog w= .ok (.tuple #[.pointer none, .bool false]) w:=by kernel_rfl
theorem tbTupleTuple (v:Value) (w:World):(Instr.typeAssert (.iface 98 v) 57 98 true).run Tryz.prog w= .ok (.tuple #[v, .bool true]) w:=by kernel_rfl
theorem tbDictNoneType (v:Value) (w:World):(Instr.typeAssert (.iface 99 v) 57 137 true).run Tryz.prog w= .ok (.tuple #[.int .u8 0, .bool false]) w:=by kernel_rfl
theorem tbDictBool (v:Value) (w:World):(Instr.typeAssert (.iface 99 v) 57 138 true).run Tryz.prog w= .ok (.tuple #[.bool false, .bool false]) w:=by kernel_rfl
theorem tbDictInt (v:Value) (w:World):(Instr.typeAssert (.iface 99 v) 57 122 true).run Tryz.prog w= .ok (.tuple #[.agg #[.int .i64 0, .pointer none], .bool false]) w:=by kernel_rfl
theorem tbDictFloat (v:Value) (w:World):(Instr.typeAssert (.iface 99 v) 57 123 true).run Tryz.prog w= .ok (.tuple #[.float .f64 0, .bool false]) w:=by kernel_rfl
theorem tbDictString (v:Value) (w:World):(Instr.typeAssert (.iface 99 v) 57 141 true).run Tryz.prog w= .ok (.tuple #[.string ⟨#[]⟩, .bool false]) w:=by kernel_rfl
theorem tbDictBytes (v:Value) (w:World):(Instr.typeAssert (.iface 99 v) 57 142 true).run Tryz.prog w= .ok (.tuple #[.string ⟨#[]⟩, .bool false]) w:=by kernel_rfl
theorem tbDictList (v:Value) (w:World):(Instr.typeAssert (.iface 99 v) 57 82 true).run Tryz.prog w= .ok (.tuple #[.pointer none, .bool false]) w:=by kernel_rfl
theorem tbDictTuple (v:Value) (w:World):(Instr.typeAssert (.iface 99 v) 57 98 true).run Tryz.prog w= .ok (.tuple #[.slice none 0 0, .bool false]) w:=by kernel_rfl
theorem tbDictDict (v:Value) (w:World):(Instr.typeAssert (.iface 99 v) 57 99 true).run Tryz.prog w= .ok (.tuple #[v, .bool true]) w:=by kernel_rfl
theorem tbSetNoneType (v:Value) (w:World):(Instr.typeAssert (.iface 102 v) 57 137 true).run Tryz.prog w= .ok (.tuple #[.int .u8 0, .bool false]) w:=by kernel_rfl
theorem tbSetBool (v:Value) (w:World):(Instr.typeAssert (.iface 102 v) 57 138 true).run Tryz.prog w= .ok (.tuple #[.bool false, .bool false]) w:=by kernel_rfl
theorem tbSetInt (v:Value) (w:World):(Instr.typeAssert (.iface 102 v) 57 122 true).run Tryz.prog w= .ok (.tuple #[.agg #[.int .i64 0, .pointer none], .bool false]) w:=by kernel_rfl
theorem tbSetFloat (v:Value) (w:World):(Instr.typeAssert (.iface 102 v) 57 123 true).run Tryz.prog w= .ok (.tuple #[.float .f64 0, .bool false]) w:=by kernel_rfl
theorem tbSetString (v:Value) (w:World):(Instr.typeAssert (.iface 102 v) 57 141 true).run Tryz.prog w= .ok (.tuple #[.string ⟨#[]⟩, .bool false]) w:=by kernel_rfl
theorem tbSetBytes (v:Value) (w:World):(Instr.typeAssert (.iface 102 v) 57 142 true).run Tryz.prog w= .ok (.tuple #[.string ⟨#[]⟩, .bool false]) w:=by kernel_rfl
theorem tbSetList (v:Value) (w:World):(Instr.typeAssert (.iface 102 v) 57 82 true).run Tryz.prog w= .ok (.tuple #[.pointer none, .bool false]) w:=by kernel_rfl
theorem tbSetTuple (v:Value) (w:World):(Instr.typeAssert (.iface 102 v) 57 98 true).run Tryz.prog w= .ok (.tuple #[.slice none 0 0, .bool false]) w:=by kernel_rfl
theorem tbSetDict (v:Value) (w:World):(Instr.typeAssert (.iface 102 v) 57 99 true).run Tryz.prog w= .ok (.tuple #[.pointer none, .bool false]) w:=by kernel_rfl
theorem tbSetSet (v:Value) (w:World):(Instr.typeAssert (.iface 102 v) 57 102 true).run Tryz.prog w= .ok (.tuple #[v, .bool true]) w:=by kernel_rfl
set_option maxRecDepth 100000 in
theorem tellSca_c (B:Nat) (v:Value) (s:Sca) (w:World) (h:ScaV B w v s) (hf:s.fit):Calls Tryz.prog 40 #[v] w (TellR w s):=by
 have HB0:Hid (Below w.heap.size w (w.alloc (.cells #[.int .i64 0, .bool false, .slice none 0 0, .int .u64 0, .string ⟨#[]⟩, .slice none 0 0] 26))):=Lib.hid ((Below.refl _ w).alloc (Nat.le_refl _) _)
 have hle:=Nat.le_refl w.heap.size
 cases s
 case none=>
  cases h
  have t1:=taNoneTypeNoneType
  go_enter Tryz.func40,Tryz.ntmps40
  go_wp2
  refine bodyPost_ret (v:= .agg #[.int .i64 0, .bool false, .slice none 0 0, .int .u64 0, .string ⟨#[]⟩, .slice none 0 0]) (by simp[results,Tryz.results40,go_sem]) rfl ?_
  exact⟨_,_,rfl,ev_flat _ _ _ _ _,canon_flat ⟨by decide,by decide⟩ (by decide) ⟨by decide,by decide⟩ rfl (fun _ _=>rfl),(Below.refl _ w).alloc (Nat.le_refl _) _⟩
 case bool b=>
  cases h
  have t1:=taBoolNoneType
  have t2:=taBoolBool
  cases b
  ·go_enter Tryz.func40,Tryz.ntmps40
   go_wp2
   refine bodyPost_ret (v:= .agg #[.int .i64 1, .bool false, .slice none 0 0, .int .u64 0, .string ⟨#[]⟩, .slice none 0 0]) (by simp[results,Tryz.results40,go_sem]) rfl ?_
   exact⟨_,_,rfl,ev_flat _ _ _ _ _,canon_flat ⟨by decide,by decide⟩ (by decide) ⟨by decide,by decide⟩ rfl (fun _ _=>rfl),(Below.refl _ w).alloc (Nat.le_refl _) _⟩
  ·go_enter Tryz.func40,Tryz.ntmps40
   go_wp2
   refine bodyPost_ret (v:= .agg #[.int .i64 1, .bool false, .slice none 0 0, .int .u64 1, .string ⟨#[]⟩, .slice none 0 0]) (by simp[results,Tryz.results40,go_sem]) rfl ?_
   exact⟨_,_,rfl,ev_flat _ _ _ _ _,canon_flat ⟨by decide,by decide⟩ (by decide) ⟨by decide,by decide⟩ rfl (fun _ _=>rfl),(Below.refl _ w).alloc (Nat.le_refl _) _⟩
 case float b=>
  cases h
  have t1:=taFloatNoneType
  have t2:=taFloatBool
  have t3:=taFloatInt
  have t4:=taFloatFloat
  have HF:Hid (b<18446744073709551616):=Lib.hid hf
  clear hf
  go_enter Tryz.func40,Tryz.ntmps40
  go_wp2_with (go_at_call 70;(with_reducible refine(bitsOf_c _ _).mono ?_);rintro e w1 ⟨rfl,hw1⟩;have hw2:=hw1.symm;clear hw1;subst hw2)
  refine bodyPost_ret (v:= .agg #[.int .i64 3, .bool false, .slice none 0 0, .int .u64 b, .string ⟨#[]⟩, .slice none 0 0]) (by simp[results,Tryz.results40,go_sem]) rfl ?_
  exact⟨_,_,rfl,ev_flat _ _ _ _ _,canon_flat ⟨by decide,by decide⟩ (by decide) ⟨by omega,by have:=HF.out;omega⟩ (by simp[scaOf]) (fun _ _=>rfl),(Below.refl _ w).alloc (Nat.le_refl _) _⟩
 case str t=>
  cases h
  have t1:=taStringNoneType
  have t2:=taStringBool
  have t3:=taStringInt
  have t4:=taStringFloat
  have t5:=taStringString
  go_enter Tryz.func40,Tryz.ntmps40
  go_wp2
  refine bodyPost_ret (v:= .agg #[.int .i64 4, .bool false, .slice none 0 0, .int .u64 0, .string t, .slice none 0 0]) (by simp[results,Tryz.results40,go_sem]) rfl ?_
  exact⟨_,_,rfl,ev_flat _ _ _ _ _,canon_flat ⟨by decide,by decide⟩ (by decide) ⟨by decide,by decide⟩ rfl (fun h _=>absurd rfl h),(Below.refl _ w).alloc (Nat.le_refl _) _⟩
 case bytes t=>
  cases h
  have t1:=taBytesNoneType
  have t2:=taBytesBool
  have t3:=taBytesInt
  have t4:=taBytesFloat
  have t5:=taBytesString
  have t6:=taBytesBytes
  go_enter Tryz.func40,Tryz.ntmps40
  go_wp2
  refine bodyPost_ret (v:= .agg #[.int .i64 5, .bool false, .slice none 0 0, .int .u64 0, .string t, .slice none 0 0]) (by simp[results,Tryz.results40,go_sem]) rfl ?_
  exact⟨_,_,rfl,ev_flat _ _ _ _ _,canon_flat ⟨by decide,by decide⟩ (by decide) ⟨by decide,by decide⟩ rfl (fun _ h=>absurd rfl h),(Below.refl _ w).alloc (Nat.le_refl _) _⟩
 case int x=>
  obtain⟨u,rfl,hu⟩:=h
  obtain⟨y,p,rfl⟩:=hu.shape
  have t1:=taIntNoneType
  have t2:=taIntBool
  have t3:=taIntInt
  have HN:=Lib.hid (fun W (hb:Below w.heap.size w W)=>number_of_c B _ x W (hu.below hb) hf)
  have HB1:Hid (Below w.heap.size w ((w.alloc (.cells #[.int .i64 0, .bool false, .slice none 0 0, .int .u64 0, .string ⟨#[]⟩, .slice none 0 0] 26)).alloc (.cells #[.int .i64 y, .pointer p] 122))):=Lib.hid (((Below.refl _ w).alloc (Nat.le_refl _) _).alloc (by simp) _)
  have HK1:Hid (((w.alloc (.cells #[.int .i64 0, .bool false, .slice none 0 0, .int .u64 0, .string ⟨#[]⟩, .slice none 0 0] 26)).alloc (.cells #[.int .i64 y, .pointer p] 122)).heap[w.heap.size]?=some (.cells #[.int .i64 0, .bool false, .slice none 0 0, .int .u64 0, .string ⟨#[]⟩, .slice none 0 0] 26 (0,0))):=Lib.hid (blk_alloc (blk_new _ _) _)
  clear hu hf
  go_enter Tryz.func40,Tryz.ntmps40
  go_wp2_with (go_at_call 69;(with_reducible refine(HN.out _ HB1.out).mono ?_);rintro e w1 ⟨v,rfl,⟨n,A,c,l,rfl,hsl,hg,hval,hlen⟩,hb⟩;have HX:=Lib.hid (And.intro hsl (And.intro hg (And.intro hval (And.intro hlen hb))));obtain⟨x0,x1,x2,x3,x4,x5⟩:=cells6 (blk_below HK1.out hb);have hfz:=fun o=>blk_free (blk_below HK1.out hb) o;clear hsl hg hval hlen hb)
  refine bodyPost_ret (v:= .agg #[.int .i64 2, .bool n, .slice A l.length c, .int .u64 0, .string ⟨#[]⟩, .slice none 0 0]) (by simp[results,Tryz.results40,go_sem,x0,x1,x2,x3,x4,x5]) rfl ?_
  obtain⟨hsl,hg,hval,hlen,hb⟩:=HX.out
  have hlt:=lt_blk HK1.out
  refine⟨_,⟨2,n,l,0,⟨#[]⟩,[]⟩,rfl,⟨A,c,rfl,?_,rfl⟩,canon_num_of hg hval hlen,?_⟩
  ·exact(((((((hsl.setCell (p:=⟨w.heap.size,0,none⟩) _ hlt).setCell (p:=⟨w.heap.size,1,none⟩) _ hlt).setCell (p:=⟨w.heap.size,2,none⟩) _ hlt).setCell (p:=⟨w.heap.size,3,none⟩) _ hlt).setCell (p:=⟨w.heap.size,4,none⟩) _ hlt).setCell (p:=⟨w.heap.size,5,none⟩) _ hlt).mono (Nat.le_of_lt hlt))
  ·exact(((((((HB1.out.trans (hb.mono HB1.out.size)).setCell (p:=⟨w.heap.size,0,none⟩) hle _).setCell (p:=⟨w.heap.size,1,none⟩) hle _).setCell (p:=⟨w.heap.size,2,none⟩) hle _).setCell (p:=⟨w.heap.size,3,none⟩) hle _).setCell (p:=⟨w.heap.size,4,none⟩) hle _).setCell (p:=⟨w.heap.size,5,none⟩) hle _)
theorem tell_sca {n B:Nat} {w:World} {v:Value} {x:VT} (h:PVs B w v x):Calls Tryz.prog 40 #[v] w (TellT n w x):=by
 obtain⟨s,hc,hf,hv⟩:=h
 refine(tellSca_c B v s w hv hf).mono ?_
 rintro e w' ⟨u,y,rfl,⟨A,c,rfl,hsl,h5⟩,hcy,hb⟩
 have hev:EVn n w.heap.size w' (six6 y A c none 0) y:=EVn.flat hsl h5 n
 refine⟨y,A,c,none,0,?_,hev,AL.flat (canon_alike hc hcy) n,hb⟩
 rw[h5];rfl
abbrev put6 (W:World) (b:Nat) (v0 v1 v2 v3 v4 v5:Value):World:=(((((W.setCell ⟨b,0,none⟩ v0).setCell ⟨b,1,none⟩ v1).setCell ⟨b,2,none⟩ v2).setCell ⟨b,3,none⟩ v3).setCell ⟨b,4,none⟩ v4).setCell ⟨b,5,none⟩ v5
theorem Agr.trans {B:Nat} {u v w:World} (h:Agr B u v) (k:Agr B v w):Agr B u w:=⟨Nat.le_trans h.sz k.sz,fun j h1 h2=>(k.eq j h1 (Nat.lt_of_lt_of_le h2 h.sz)).trans (h.eq j h1 h2)⟩
theorem agr_put6 (W:World) (b:Nat) (v0 v1 v2 v3 v4 v5:Value):Agr (b+1) W (put6 W b v0 v1 v2 v3 v4 v5):=
 ((((((agr_set W ⟨b,0,none⟩ v0).trans (agr_set _ ⟨b,1,none⟩ v1)).trans (agr_set _ ⟨b,2,none⟩ v2)).trans (agr_set _ ⟨b,3,none⟩ v3)).trans (agr_set _ ⟨b,4,none⟩ v4)).trans (agr_set _ ⟨b,5,none⟩ v5))
theorem below_put6 {B b:Nat} {w W:World} (h:Below B w W) (hle:B≤b) (v0 v1 v2 v3 v4 v5:Value):Below B w (put6 W b v0 v1 v2 v3 v4 v5):=
 ((((((h.setCell (p:=⟨b,0,none⟩) hle _).setCell (p:=⟨b,1,none⟩) hle _).setCell (p:=⟨b,2,none⟩) hle _).setCell (p:=⟨b,3,none⟩) hle _).setCell (p:=⟨b,4,none⟩) hle _).setCell (p:=⟨b,5,none⟩) hle _)
theorem tell_done {n N:Nat} {w W2 W3:World} {x:VT} {ys:List VT} (k:Int) (hb:Box x) (hk:x.f0=k) (h6:6≤k) (hl:ys.length=x.f5.length) (h16:x.f5.length≤16) (hV:VN n W2 W2.heap.size N x.f5 ys W3) (hw:Below w.heap.size w W2) (hlt:w.heap.size<W2.heap.size) (v0 v1 v2 v3 v4 v5:Value):
 TellT (n+1) w x (.returned (.agg #[.int .i64 k, .bool false, .slice none 0 0, .int .u64 0, .string ⟨#[]⟩, .slice (some ⟨W2.heap.size,0,none⟩) ys.length ys.length])) (put6 W3 w.heap.size v0 v1 v2 v3 v4 v5):=by
 have ha:=agr_put6 W3 w.heap.size v0 v1 v2 v3 v4 v5
 have hl16:ys.length≤16:=by omega
 refine⟨⟨k,false,[],0,⟨#[]⟩,ys⟩,none,0,_,_,rfl,⟨none,0,_,_,rfl,Sl.nil,Nat.le_refl _,(by show ys.length≤1000000;omega),fun hne=>⟨W2.heap.size,rfl,Nat.le_of_lt hlt,Nat.lt_of_lt_of_le hV.lt ha.sz,fun i hi=>?_⟩⟩,Or.inr ⟨by omega,hk,hb.2.2.2,hl.symm,by omega,fun i h1 h2=>hV.al i h2 h1⟩,?_⟩
 ·obtain⟨cs,hc,hv⟩:=hV.el i hi
  exact⟨cs,fun j v hj=>(cell_of_block (ha.eq _ (by omega) hV.lt) _).trans (hc j v hj),((hv.lower (by omega)).agr ha).lower (Nat.le_succ _)⟩
 ·exact below_put6 (hw.trans (hV.low.mono hw.size)) (Nat.le_refl _) _ _ _ _ _ _
set_option maxRecDepth 100000 in
set_option maxHeartbeats 1000000 in
theorem tellList_c (n B:Nat) (w:World) (x:VT) (hb:Box x) (hk:x.f0=6) (h16:x.f5.length≤16) (hct: ∀q∈x.f5,CT n q) (g:Nat) (sl:Value) (hL:LT w g sl) (hr:RowV B w (PV B n w) sl x.f5) (ih: ∀(v:Value) (y:VT) (W:World),PV B n W v y→CT n y→Calls Tryz.prog 40 #[v] W (TellT n W y)):
 Calls Tryz.prog 40 #[.iface 82 (.pointer (some ⟨g,0,none⟩))] w (TellT (n+1) w x):=by
 obtain⟨A,c,us,rfl,hle,hlen,hcell,hP⟩:=hr
 have hifm: ∀u∈us,∃T y,u= .iface T y:=by
  intro u hu
  obtain⟨i,hi,rfl⟩:=List.mem_iff_getElem.1 hu
  exact(hP i hi (by omega)).iface
 have hul:us.length=x.f5.length:=hlen
 have hPV: ∀i (h1:i<us.length) (h2:i<x.f5.length),PV B n w us[i] x.f5[i]:=hP
 obtain⟨W1,hW1⟩: ∃W,W=w.alloc (.cells #[.int .i64 0, .bool false, .slice none 0 0, .int .u64 0, .string ⟨#[]⟩, .slice none 0 0] 26):=⟨_,rfl⟩
 have hb1:Below w.heap.size w W1:=by rw[hW1];exact(Below.refl _ w).alloc (Nat.le_refl _) _
 have hz1:W1.heap.size=w.heap.size+1:=by rw[hW1];simp
 have hK:W1.heap[w.heap.size]?=some (.cells #[.int .i64 0, .bool false, .slice none 0 0, .int .u64 0, .string ⟨#[]⟩, .slice none 0 0] 26 (0,0)):=by rw[hW1];exact blk_new _ _
 have hL1:=blk_below hL hb1
 have hR1:RW W1 (.slice A us.length c) us:=RW.below (w:=w) ⟨A,c,rfl,hle,fun hne=>by obtain⟨M,o,e,_,hc⟩:=hcell hne;exact⟨M,o,e,hc⟩⟩ hb1
 have HIt:=Lib.hid (listIterate_c g _ W1 hL1)
 have HGo:=Lib.hid (goneList_c g _ us W1 hL1 hR1 hifm (by omega))
 have HTA:Hid (∀(v:Value) (W:World),RW W v us→Below W1.heap.size W1 W→Calls Tryz.prog 71 #[v] W fun e w'=> ∃ys,e= .returned (.slice (some ⟨W.heap.size,0,none⟩) ys.length ys.length)∧ys.length=us.length∧VN n W W.heap.size us.length x.f5 ys w'):=Lib.hid fun v W hv hW=>tellAll_c n us x.f5 v W hv hul hifm (fun i h1 h2 W' hW'=>ih _ _ W' ((hPV i h1 h2).below ((hb1.trans (hW.mono hb1.size)).trans (hW'.mono (Nat.le_trans hb1.size hW.size)))) (hct _ (List.getElem_mem h2))) (by omega)
 have HF:=Lib.hid (And.intro hb1 (And.intro hz1 hK))
 have HUL:=Lib.hid hul
 clear hul
 have t0:=tbListNoneType
 have t1:=tbListBool
 have t2:=tbListInt
 have t3:=tbListFloat
 have t4:=tbListString
 have t5:=tbListBytes
 have t6:=tbListList
 clear hcell hP hL hL1 hR1 hct ih hifm hPV hb1 hz1 hK
 go_enter Tryz.func40,Tryz.ntmps40
 go_upto_region 24 with fail
 rw[←hW1]
 clear hW1
 go_wp2_with (first
  |(go_at_call 73;(with_reducible refine HIt.out.mono ?_);rintro e w1 ⟨rfl,rfl⟩)
  |(go_at_call 72;(with_reducible refine HGo.out.mono ?_);rintro e w2 ⟨v,rfl,hv,hb2⟩;have H2:=Lib.hid (And.intro hv hb2);have HT2:=Lib.hid (HTA.out v w2 hv hb2);have hK2:=blk_below HF.out.2.2 hb2;clear hv hb2)
  |(go_at_call 71;(with_reducible refine HT2.out.mono ?_);rintro e w3 ⟨ys,rfl,hyl,hV⟩;have HV:=Lib.hid (And.intro hyl hV);obtain⟨x0,x1,x2,x3,x4,x5⟩:=cells6 (blk_below hK2 hV.low);have hfz:=fun o=>blk_free (blk_below hK2 hV.low) o;clear hyl hV))
 refine bodyPost_ret (v:= .agg #[.int .i64 6, .bool false, .slice none 0 0, .int .u64 0, .string ⟨#[]⟩, .slice (some ⟨w2.heap.size,0,none⟩) ys.length ys.length]) (by simp[results,Tryz.results40,go_sem,x0,x1,x2,x3,x4,x5]) rfl ?_
 exact tell_done 6 hb hk (by decide) (HV.out.1.trans HUL.out) h16 HV.out.2 (HF.out.1.trans (H2.out.2.mono HF.out.1.size)) (by have:=HF.out.2.1;have:=H2.out.2.size;omega) _ _ _ _ _ _
set_option maxRecDepth 100000 in
set_option maxHeartbeats 1000000 in
theorem tellSet_c (n B:Nat) (w:World) (x:VT) (hb:Box x) (hk:x.f0=9) (h16:x.f5.length≤16) (hct: ∀q∈x.f5,CT n q) (g:Nat) (es:List HEnt) (hL:HTab w g 185 (!es.isEmpty) es 0) (hlen:x.f5.length=es.length) (he8:es.length≤8) (hr: ∀i (h:i<es.length) (h1:i<x.f5.length),PV B n w es[i].k x.f5[i]) (ih: ∀(v:Value) (y:VT) (W:World),PV B n W v y→CT n y→Calls Tryz.prog 40 #[v] W (TellT n W y)):
 Calls Tryz.prog 40 #[.iface 102 (.pointer (some ⟨g,0,none⟩))] w (TellT (n+1) w x):=by
 obtain⟨us,hus⟩: ∃us,us=es.map (·.k):=⟨_,rfl⟩
 have hul:us.length=x.f5.length:=by rw[hus,hlen];simp
 have hPV: ∀i (h1:i<us.length) (h2:i<x.f5.length),PV B n w us[i] x.f5[i]:=by
  intro i h1 h2
  subst hus
  rw[List.getElem_map]
  exact hr i (by omega) h2
 have hifm: ∀u∈us,∃T y,u= .iface T y:=by
  intro u hu
  obtain⟨i,hi,rfl⟩:=List.mem_iff_getElem.1 hu
  exact(hPV i hi (by omega)).iface
 obtain⟨W1,hW1⟩: ∃W,W=w.alloc (.cells #[.int .i64 0, .bool false, .slice none 0 0, .int .u64 0, .string ⟨#[]⟩, .slice none 0 0] 26):=⟨_,rfl⟩
 have hb1:Below w.heap.size w W1:=by rw[hW1];exact(Below.refl _ w).alloc (Nat.le_refl _) _
 have hz1:W1.heap.size=w.heap.size+1:=by rw[hW1];simp
 have hK:W1.heap[w.heap.size]?=some (.cells #[.int .i64 0, .bool false, .slice none 0 0, .int .u64 0, .string ⟨#[]⟩, .slice none 0 0] 26 (0,0)):=by rw[hW1];exact blk_new _ _
 have hL1:HTab W1 g 185 (!es.isEmpty) es 0:=hL.below hb1
 have HIt:Hid (Calls Tryz.prog 75 #[.pointer (some ⟨g,0,none⟩)] W1 fun e w'=>e= .returned (.iface 218 (.pointer (some ⟨W1.heap.size,0,none⟩)))∧w'=itW W1 g es.length):=Lib.hid (setIterate_c g _ es W1 hL1)
 have HGo:Hid (Calls Tryz.prog 72 #[.iface 218 (.pointer (some ⟨W1.heap.size,0,none⟩))] (itW W1 g es.length) fun e w'=> ∃v,e= .returned v∧RW w' v us∧Below W1.heap.size W1 w'):=by
  rw[hus]
  exact Lib.hid (goneSet_c g _ _ es W1 hL1 he8 (fun j hj=>(hr j hj (by omega)).iface))
 have HTA:Hid (∀(v:Value) (W:World),RW W v us→Below W1.heap.size W1 W→Calls Tryz.prog 71 #[v] W fun e w'=> ∃ys,e= .returned (.slice (some ⟨W.heap.size,0,none⟩) ys.length ys.length)∧ys.length=us.length∧VN n W W.heap.size us.length x.f5 ys w'):=Lib.hid fun v W hv hW=>tellAll_c n us x.f5 v W hv hul hifm (fun i h1 h2 W' hW'=>ih _ _ W' ((hPV i h1 h2).below ((hb1.trans (hW.mono hb1.size)).trans (hW'.mono (Nat.le_trans hb1.size hW.size)))) (hct _ (List.getElem_mem h2))) (by omega)
 have HF:=Lib.hid (And.intro hb1 (And.intro hz1 hK))
 have HUL:=Lib.hid hul
 clear hul
 have t0:=tbSetNoneType
 have t1:=tbSetBool
 have t2:=tbSetInt
 have t3:=tbSetFloat
 have t4:=tbSetString
 have t5:=tbSetBytes
 have t6:=tbSetList
 have t7:=tbSetTuple
 have t8:=tbSetDict
 have t9:=tbSetSet
 clear hL hL1 hr hct ih hifm hPV hb1 hz1 hK
 go_enter Tryz.func40,Tryz.ntmps40
 go_upto_region 33 with fail
 rw[←hW1]
 clear hW1
 go_wp2_with (first
  |(go_at_call 75;(with_reducible refine HIt.out.mono ?_);rintro e w1 ⟨rfl,rfl⟩)
  |(go_at_call 72;(with_reducible refine HGo.out.mono ?_);rintro e w2 ⟨v,rfl,hv,hb2⟩;have H2:=Lib.hid (And.intro hv hb2);have HT2:=Lib.hid (HTA.out v w2 hv hb2);have hK2:=blk_below HF.out.2.2 hb2;clear hv hb2)
  |(go_at_call 71;(with_reducible refine HT2.out.mono ?_);rintro e w3 ⟨ys,rfl,hyl,hV⟩;have HV:=Lib.hid (And.intro hyl hV);obtain⟨x0,x1,x2,x3,x4,x5⟩:=cells6 (blk_below hK2 hV.low);have hfz:=fun o=>blk_free (blk_below hK2 hV.low) o;clear hyl hV))
 refine bodyPost_ret (v:= .agg #[.int .i64 9, .bool false, .slice none 0 0, .int .u64 0, .string ⟨#[]⟩, .slice (some ⟨w2.heap.size,0,none⟩) ys.length ys.length]) (by simp[results,Tryz.results40,go_sem,x0,x1,x2,x3,x4,x5]) rfl ?_
 exact tell_done 9 hb hk (by decide) (HV.out.1.trans HUL.out) h16 HV.out.2 (HF.out.1.trans (H2.out.2.mono HF.out.1.size)) (by have:=HF.out.2.1;have:=H2.out.2.size;omega) _ _ _ _ _ _
set_option maxRecDepth 100000 in
set_option maxHeartbeats 1000000 in
theorem tellTuple_c (n B:Nat) (w:World) (x:VT) (hb:Box x) (hk:x.f0=7) (h16:x.f5.length≤16) (hct: ∀q∈x.f5,CT n q) (sl:Value) (hr:RowV B w (PV B n w) sl x.f5) (ih: ∀(v:Value) (y:VT) (W:World),PV B n W v y→CT n y→Calls Tryz.prog 40 #[v] W (TellT n W y)):
 Calls Tryz.prog 40 #[.iface 98 sl] w (TellT (n+1) w x):=by
 obtain⟨A,c,us,rfl,hle,hlen,hcell,hP⟩:=hr
 have hifm: ∀u∈us,∃T y,u= .iface T y:=by
  intro u hu
  obtain⟨i,hi,rfl⟩:=List.mem_iff_getElem.1 hu
  exact(hP i hi (by omega)).iface
 have hul:us.length=x.f5.length:=hlen
 obtain⟨W1,hW1⟩: ∃W,W=w.alloc (.cells #[.int .i64 0, .bool false, .slice none 0 0, .int .u64 0, .string ⟨#[]⟩, .slice none 0 0] 26):=⟨_,rfl⟩
 have hb1:Below w.heap.size w W1:=by rw[hW1];exact(Below.refl _ w).alloc (Nat.le_refl _) _
 have hz1:W1.heap.size=w.heap.size+1:=by rw[hW1];simp
 have hK:W1.heap[w.heap.size]?=some (.cells #[.int .i64 0, .bool false, .slice none 0 0, .int .u64 0, .string ⟨#[]⟩, .slice none 0 0] 26 (0,0)):=by rw[hW1];exact blk_new _ _
 have hR1:RW W1 (.slice A us.length c) us:=RW.below (w:=w) ⟨A,c,rfl,hle,fun hne=>by obtain⟨M,o,e,_,hc⟩:=hcell hne;exact⟨M,o,e,hc⟩⟩ hb1
 have HTA:=Lib.hid (tellAll_c n us x.f5 _ W1 hR1 hul hifm (fun i h1 h2 W' hW'=>ih _ _ W' ((hP i h1 h2).below (hb1.trans (hW'.mono hb1.size))) (hct _ (List.getElem_mem h2))) (by omega))
 have HF:=Lib.hid (And.intro hb1 (And.intro hz1 hK))
 have HUL:=Lib.hid hul
 clear hul
 have t0:=tbTupleNoneType
 have t1:=tbTupleBool
 have t2:=tbTupleInt
 have t3:=tbTupleFloat
 have t4:=tbTupleString
 have t5:=tbTupleBytes
 have t6:=tbTupleList
 have t7:=tbTupleTuple
 clear hcell hP hR1 hct ih hifm hb1 hz1 hK hlen
 go_enter Tryz.func40,Tryz.ntmps40
 go_upto_region 27 with fail
 rw[←hW1]
 clear hW1
 go_wp2_with (go_at_call 71;(with_reducible refine HTA.out.mono ?_);rintro e w3 ⟨ys,rfl,hyl,hV⟩;have HV:=Lib.hid (And.intro hyl hV);obtain⟨x0,x1,x2,x3,x4,x5⟩:=cells6 (blk_below HF.out.2.2 hV.low);have hfz:=fun o=>blk_free (blk_below HF.out.2.2 hV.low) o;clear hyl hV)
 refine bodyPost_ret (v:= .agg #[.int .i64 7, .bool false, .slice none 0 0, .int .u64 0, .string ⟨#[]⟩, .slice (some ⟨W1.heap.size,0,none⟩) ys.length ys.length]) (by simp[results,Tryz.results40,go_sem,x0,x1,x2,x3,x4,x5]) rfl ?_
 exact tell_done 7 hb hk (by decide) (HV.out.1.trans HUL.out) h16 HV.out.2 HF.out.1 (by have:=HF.out.2.1;omega) _ _ _ _ _ _
set_option maxRecDepth 100000 in
set_option maxHeartbeats 1000000 in
theorem tellDict_c (n B:Nat) (w:World) (x:VT) (hb:Box x) (hk:x.f0=8) (h16:x.f5.length≤16) (hct: ∀q∈x.f5,CT n q) (g:Nat) (es:List HEnt) (hL:HTab w g 183 (!es.isEmpty) es 0) (hlen:x.f5.length=es.length*2) (hr: ∀i (h:i<es.length) (h1:i*2<x.f5.length) (h2:i*2+1<x.f5.length),PV B n w es[i].k x.f5[i*2]∧PV B n w es[i].v x.f5[i*2+1]) (ih: ∀(v:Value) (y:VT) (W:World),PV B n W v y→CT n y→Calls Tryz.prog 40 #[v] W (TellT n W y)):
 Calls Tryz.prog 40 #[.iface 99 (.pointer (some ⟨g,0,none⟩))] w (TellT (n+1) w x):=by
 have he8:es.length≤8:=by omega
 have hif2: ∀j (hj:j<es.length),(∃T x,es[j].k= .iface T x)∧ ∃T x,es[j].v= .iface T x:=fun j hj=>⟨(hr j hj (by omega) (by omega)).1.iface,(hr j hj (by omega) (by omega)).2.iface⟩
 have hul:(turns es).length=x.f5.length:=by rw[turns_len,hlen]
 have hifm:=turns_if hif2
 have hPV: ∀i (h1:i<(turns es).length) (h2:i<x.f5.length),PV B n w (turns es)[i] x.f5[i]:=by
  intro i h1 h2
  have hq:i/2<es.length:=by omega
  obtain⟨e1,e2⟩:=turns_at es (i/2) hq
  have hg:=List.getElem?_eq_getElem h1
  obtain⟨p1,p2⟩:=hr (i/2) hq (by omega) (by omega)
  rcases Nat.mod_two_eq_zero_or_one i with e|e
  ·have ei:i/2*2=i:=by omega
   rw[ei,hg] at e1
   rw[Option.some.inj e1]
   simp only[ei] at p1
   exact p1
  ·have ei:i/2*2+1=i:=by omega
   rw[ei,hg] at e2
   rw[Option.some.inj e2]
   simp only[ei] at p2
   exact p2
 obtain⟨W1,hW1⟩: ∃W,W=w.alloc (.cells #[.int .i64 0, .bool false, .slice none 0 0, .int .u64 0, .string ⟨#[]⟩, .slice none 0 0] 26):=⟨_,rfl⟩
 have hb1:Below w.heap.size w W1:=by rw[hW1];exact(Below.refl _ w).alloc (Nat.le_refl _) _
 have hz1:W1.heap.size=w.heap.size+1:=by rw[hW1];simp
 have hK:W1.heap[w.heap.size]?=some (.cells #[.int .i64 0, .bool false, .slice none 0 0, .int .u64 0, .string ⟨#[]⟩, .slice none 0 0] 26 (0,0)):=by rw[hW1];exact blk_new _ _
 have hL1:HTab W1 g 183 (!es.isEmpty) es 0:=hL.below hb1
 have HPa:=Lib.hid (paired_c g _ es 0 W1 hL1 he8 hif2)
 have HTA:Hid (∀(v:Value) (W:World),RW W v (turns es)→Below W1.heap.size W1 W→Calls Tryz.prog 71 #[v] W fun e w'=> ∃ys,e= .returned (.slice (some ⟨W.heap.size,0,none⟩) ys.length ys.length)∧ys.length=(turns es).length∧VN n W W.heap.size (turns es).length x.f5 ys w'):=Lib.hid fun v W hv hW=>tellAll_c n (turns es) x.f5 v W hv hul hifm (fun i h1 h2 W' hW'=>ih _ _ W' ((hPV i h1 h2).below ((hb1.trans (hW.mono hb1.size)).trans (hW'.mono (Nat.le_trans hb1.size hW.size)))) (hct _ (List.getElem_mem h2))) (by omega)
 have HF:=Lib.hid (And.intro hb1 (And.intro hz1 hK))
 have HUL:=Lib.hid hul
 clear hul
 have t0:=tbDictNoneType
 have t1:=tbDictBool
 have t2:=tbDictInt
 have t3:=tbDictFloat
 have t4:=tbDictString
 have t5:=tbDictBytes
 have t6:=tbDictList
 have t7:=tbDictTuple
 have t8:=tbDictDict
 clear hL hL1 hr hct ih hifm hif2 hPV hb1 hz1 hK
 go_enter Tryz.func40,Tryz.ntmps40
 go_upto_region 30 with fail
 rw[←hW1]
 clear hW1
 go_wp2_with (first
  |(go_at_call 74;(with_reducible refine HPa.out.mono ?_);rintro e w2 ⟨v,rfl,hv,hb2⟩;have H2:=Lib.hid (And.intro hv hb2);have HT2:=Lib.hid (HTA.out v w2 hv hb2);have hK2:=blk_below HF.out.2.2 hb2;clear hv hb2)
  |(go_at_call 71;(with_reducible refine HT2.out.mono ?_);rintro e w3 ⟨ys,rfl,hyl,hV⟩;have HV:=Lib.hid (And.intro hyl hV);obtain⟨x0,x1,x2,x3,x4,x5⟩:=cells6 (blk_below hK2 hV.low);have hfz:=fun o=>blk_free (blk_below hK2 hV.low) o;clear hyl hV))
 refine bodyPost_ret (v:= .agg #[.int .i64 8, .bool false, .slice none 0 0, .int .u64 0, .string ⟨#[]⟩, .slice (some ⟨w2.heap.size,0,none⟩) ys.length ys.length]) (by simp[results,Tryz.results40,go_sem,x0,x1,x2,x3,x4,x5]) rfl ?_
 exact tell_done 8 hb hk (by decide) (HV.out.1.trans HUL.out) h16 HV.out.2 (HF.out.1.trans (H2.out.2.mono HF.out.1.size)) (by have:=HF.out.2.1;have:=H2.out.2.size;omega) _ _ _ _ _ _
theorem tell_c (B:Nat): ∀(n:Nat) (v:Value) (x:VT) (w:World),PV B n w v x→CT n x→Calls Tryz.prog 40 #[v] w (TellT n w x)
  |0,v,x,w,h,hc=>tell_sca h
  |n+1,v,x,w,h,hc=>by
    have ih: ∀(v:Value) (y:VT) (W:World),PV B n W v y→CT n y→Calls Tryz.prog 40 #[v] W (TellT n W y):=fun v y W h hc=>tell_c B n v y W h hc
    rcases h with h|⟨hb,h⟩
    ·exact tell_sca h
    · have h6: ¬x.f0<6:=by rcases h with⟨h,_⟩|⟨h,_⟩|⟨h,_⟩|⟨h,_⟩<;>omega
      obtain⟨m,e,_,h16,hct,hk⟩:=hc.isBox h6
      obtain rfl:n=m:=by omega
      rcases h with⟨k6,g,sl,rfl,hg,hl,hr⟩|⟨k7,sl,rfl,hr⟩|⟨k8,g,es,rfl,hg,ht,hl,hr⟩|⟨k9,g,es,rfl,hg,ht,hl,hr⟩
      ·exact tellList_c n B w x hb k6 h16 hct g sl hl hr ih
      ·exact tellTuple_c n B w x hb k7 h16 hct sl hr ih
      ·exact tellDict_c n B w x hb k8 h16 hct g es ht hl (fun i h h1 h2=>⟨(hr i h h1 h2).1,(hr i h h1 h2).2.1⟩) ih
      · have he8:es.length≤8:=by
          rcases hk with hk|hk|⟨hk,_⟩|⟨_,hk⟩
          ·omega
          ·omega
          ·omega
          ·have:=hk.1;omega
        exact tellSet_c n B w x hb k9 h16 hct g es ht hl he8 (fun i h h1=>(hr i h h1).1) ih
end Go.Proofs.YtkplnbjgkhmbcaaGreatDoor
namespace Go.Proofs.YtkplnbjgkhmbcaaGreatDoor
open Go.RowKit Go.Shelf Go.Proofs.YtkplnbjgkhmbcaaGreatDoorW.PrintWords Go.Proofs.YtkplnbjgkhmbcaaGreatDoorW.PrintLast Go.Proofs.YtkplnbjgkhmbcaaGreatDoorW.PrintMore Go.Proofs.YtkplnbjgkhmbcaaGreatDoor.PFnCompare Go.Proofs.YtkplnbjgkhmbcaaGreatDoor.PCmp Go.Proofs.YtkplnbjgkhmbcaaGreatDoor.PbytesOf
set_option linter.unusedVariables false
set_option linter.unusedSimpArgs false
set_option maxRecDepth 100000 in
set_option maxHeartbeats 1000000 in
theorem sameListG_c (R:VT→VT→Prop) (HS: ∀(x y:VT) (u v:Value) (W:World),R x y→VR W u x→VR W v y→Calls Tryz.prog 18 #[u,v] W fun e W'=>e= .returned (.bool true)∧Below W.heap.size W W')
 (A B:Option Addr) (c d:Nat) (xs ys:List VT) (w:World) (h1:kV.C w A xs.length xs) (h2:kV.C w B ys.length ys) (hl:ys.length=xs.length) (ha: ∀i (h1:i<xs.length) (h2:i<ys.length),R xs[i] ys[i]) (hn:xs.length≤1000000):
 Calls Tryz.prog 45 #[.slice A xs.length c, .slice B ys.length d] w fun e w'=>e= .returned (.bool true)∧Below w.heap.size w w':=by
 have HK:=Lib.hid (fun i hi=>kid_at h1 i hi rfl)
 have HM:=Lib.hid (fun i hi=>kid_at h2 i hi rfl)
 have HE:Hid (∀W,Below w.heap.size w W→ ∀i (hi:i<xs.length) (hi2:i<ys.length) u v,VR W u xs[i]→VR W v ys[i]→Calls Tryz.prog 18 #[u,v] W fun e W'=>e= .returned (.bool true)∧Below W.heap.size W W'):=Lib.hid fun W hW i hi hi2 u v hu hv=>HS _ _ u v W (ha i hi hi2) hu hv
 have HL:=Lib.hid hl
 rw[hl]
 clear h1 h2 ha hl HS
 go_enter Tryz.func45,Tryz.ntmps45
 go_wp2_with fail
 go_loopw [5] (fun i wr=> ∃j:Nat,j≤xs.length∧i= .int .i64 (j:Int)∧Hid (Below w.heap.size w wr)) (fun i _=>xs.length-(intOf i).toNat)
 case atStart=>exact⟨0,Nat.zero_le _,rfl,Lib.hid (Below.refl _ _)⟩
 case round=>
  obtain⟨j,hj,rfl,HW⟩:=hrel
  by_cases hlt:j<xs.length
  ·have hlt2:j<ys.length:=by rw[HL.out];exact hlt
   obtain⟨b,o,A2,c2,A5,c5,rfl,hb,k0,k1,k2,k3,k4,k5,hV⟩:=HK.out j hlt
   obtain⟨b',o',B2,d2,B5,d5,rfl,hb',m0,m1,m2,m3,m4,m5,hV'⟩:=HM.out j hlt2
   have hB:=HW.out
   have x0:=(hB.cell (p:=⟨b,o+j*6,none⟩) hb).trans k0
   have x1:=(hB.cell (p:=⟨b,o+j*6+1,none⟩) hb).trans k1
   have x2:=(hB.cell (p:=⟨b,o+j*6+2,none⟩) hb).trans k2
   have x3:=(hB.cell (p:=⟨b,o+j*6+3,none⟩) hb).trans k3
   have x4:=(hB.cell (p:=⟨b,o+j*6+4,none⟩) hb).trans k4
   have x5:=(hB.cell (p:=⟨b,o+j*6+5,none⟩) hb).trans k5
   have y0:=(hB.cell (p:=⟨b',o'+j*6,none⟩) hb').trans m0
   have y1:=(hB.cell (p:=⟨b',o'+j*6+1,none⟩) hb').trans m1
   have y2:=(hB.cell (p:=⟨b',o'+j*6+2,none⟩) hb').trans m2
   have y3:=(hB.cell (p:=⟨b',o'+j*6+3,none⟩) hb').trans m3
   have y4:=(hB.cell (p:=⟨b',o'+j*6+4,none⟩) hb').trans m4
   have y5:=(hB.cell (p:=⟨b',o'+j*6+5,none⟩) hb').trans m5
   have HEj:=Lib.hid (fun W (hW:Below w.heap.size w W)=>HE.out W hW j hlt hlt2 _ _ (hV.below hW) (hV'.below hW))
   clear k0 k1 k2 k3 k4 k5 hV hB m0 m1 m2 m3 m4 m5 hV'
   go_upto_region 6 with fail
   go_region_held3 (fun W=>(W.cell? ⟨b,o+j*6,none⟩=some (.int .i64 xs[j].f0)∧W.cell? ⟨b,o+j*6+1,none⟩=some (.bool xs[j].f1)∧W.cell? ⟨b,o+j*6+2,none⟩=some (.slice A2 xs[j].f2.length c2)∧W.cell? ⟨b,o+j*6+3,none⟩=some (.int .u64 xs[j].f3)∧W.cell? ⟨b,o+j*6+4,none⟩=some (.string xs[j].f4)∧W.cell? ⟨b,o+j*6+5,none⟩=some (.slice A5 xs[j].f5.length c5))∧(W.cell? ⟨b',o'+j*6,none⟩=some (.int .i64 ys[j].f0)∧W.cell? ⟨b',o'+j*6+1,none⟩=some (.bool ys[j].f1)∧W.cell? ⟨b',o'+j*6+2,none⟩=some (.slice B2 ys[j].f2.length d2)∧W.cell? ⟨b',o'+j*6+3,none⟩=some (.int .u64 ys[j].f3)∧W.cell? ⟨b',o'+j*6+4,none⟩=some (.string ys[j].f4)∧W.cell? ⟨b',o'+j*6+5,none⟩=some (.slice B5 ys[j].f5.length d5))) (first|(with_reducible exact⟨⟨r0,r1,r2,r3,r4,r5⟩,⟨s0,s1,s2,s3,s4,s5⟩⟩)|(with_reducible exact⟨⟨x0,x1,x2,x3,x4,x5⟩,⟨y0,y1,y2,y3,y4,y5⟩⟩)|exact⟨⟨x0,x1,x2,x3,x4,x5⟩,⟨y0,y1,y2,y3,y4,y5⟩⟩) (first
    |(go_at_call 18;(with_reducible refine(HEj.out _ HW.out.drew).mono ?_);rintro e w1 ⟨rfl,hb1⟩;have HB1:Hid (Below w.heap.size w w1):=Lib.hid (HW.out.drew.trans (hb1.mono HW.out.size));have hbw:=Nat.lt_of_lt_of_le hb HW.out.size;have hbw':=Nat.lt_of_lt_of_le hb' HW.out.size;have r0:=(hb1.cell (p:=⟨b,o+j*6,none⟩) hbw).trans x0;have r1:=(hb1.cell (p:=⟨b,o+j*6+1,none⟩) hbw).trans x1;have r2:=(hb1.cell (p:=⟨b,o+j*6+2,none⟩) hbw).trans x2;have r3:=(hb1.cell (p:=⟨b,o+j*6+3,none⟩) hbw).trans x3;have r4:=(hb1.cell (p:=⟨b,o+j*6+4,none⟩) hbw).trans x4;have r5:=(hb1.cell (p:=⟨b,o+j*6+5,none⟩) hbw).trans x5;have s0:=(hb1.cell (p:=⟨b',o'+j*6,none⟩) hbw').trans y0;have s1:=(hb1.cell (p:=⟨b',o'+j*6+1,none⟩) hbw').trans y1;have s2:=(hb1.cell (p:=⟨b',o'+j*6+2,none⟩) hbw').trans y2;have s3:=(hb1.cell (p:=⟨b',o'+j*6+3,none⟩) hbw').trans y3;have s4:=(hb1.cell (p:=⟨b',o'+j*6+4,none⟩) hbw').trans y4;have s5:=(hb1.cell (p:=⟨b',o'+j*6+5,none⟩) hbw').trans y5;clear hb1))
   clear x0 x1 x2 x3 x4 x5 y0 y1 y2 y3 y4 y5 r0 r1 r2 r3 r4 r5 s0 s1 s2 s3 s4 s5
   go_wp2
   go_roundw
   case rel=>exact⟨j+1,by omega,by go_num,HB1⟩
   case measure=>simp[intOf];omega
  ·have hje:j=xs.length:=by omega
   subst hje
   go_wp2
   go_ret
   exact⟨rfl,HW.out⟩
set_option maxRecDepth 100000 in
theorem sameBox_c (x y:VT) (v1 v2:Value) (w:World) (h1:VR w v1 x) (h2:VR w v2 y) (h6:6≤x.f0) (e0:x.f0=y.f0) (e4:x.f4=y.f4) (hl:x.f5.length=y.f5.length)
 (HSL: ∀(A B:Option Addr) (c d:Nat) (W:World),kV.C W A x.f5.length x.f5→kV.C W B y.f5.length y.f5→Calls Tryz.prog 45 #[.slice A x.f5.length c, .slice B y.f5.length d] W fun e w'=>e= .returned (.bool true)∧Below W.heap.size W w'):
 Calls Tryz.prog 18 #[v1,v2] w fun e w'=>e= .returned (.bool true)∧Below w.heap.size w w':=by
 obtain⟨a0,a1,a2,a3,a4,a5⟩:=x
 obtain⟨b0,b1,b2,b3,b4,b5⟩:=y
 dsimp only at h6 e0 e4 hl HSL
 subst e0 e4
 obtain⟨A2,c2,A5,c5,rfl,_,_,_,hC1⟩:=h1.open
 obtain⟨B2,d2,B5,d5,rfl,_,_,_,hC2⟩:=h2.open
 dsimp only at hC1 hC2
 rw[←hl] at HSL hC2
 dsimp only
 rw[←hl]
 have HC:=Lib.hid (fun W (hW:Below w.heap.size w W)=>HSL A5 B5 c5 d5 W (Kd.C_below hC1 hW) (Kd.C_below hC2 hW))
 have HB:Hid (∀o o',Below w.heap.size w ((w.alloc o).alloc o')):=Lib.hid fun o o'=>((Below.refl _ w).alloc (Nat.le_refl _) _).alloc (by simp) _
 have ex:(a0==2)=false:=by simp;omega
 have ey:(a0==3)=false:=by simp;omega
 have ez:(a0==1)=false:=by simp;omega
 clear h1 h2 hC1 hC2 HSL h6 hl
 go_enter Tryz.func18,Tryz.ntmps18
 go_wp2_with (go_at_call 45;(with_reducible refine(HC.out _ (HB.out _ _)).mono ?_);rintro e w1 ⟨rfl,hb1⟩;have HR:=Lib.hid ((HB.out _ _).trans (hb1.mono (HB.out _ _).size));clear hb1)
 go_ret
 exact⟨rfl,HR.out⟩
theorem sameT_c: ∀(n:Nat) (x y:VT) (v1 v2:Value) (w:World),AL n x y→VR w v1 x→VR w v2 y→Calls Tryz.prog 18 #[v1,v2] w fun e w'=>e= .returned (.bool true)∧Below w.heap.size w w'
 |0,x,y,v1,v2,w,ha,h1,h2=>specSame_c x y v1 v2 w h1 h2 ha
 |n+1,x,y,v1,v2,w,ha,h1,h2=>by
  rcases ha with ha|⟨h6,e0,e4,hl,hn,hk⟩
  ·exact specSame_c x y v1 v2 w h1 h2 ha
  ·exact sameBox_c x y v1 v2 w h1 h2 h6 e0 e4 hl fun A B c d W c1 c2=>sameListG_c (AL n) (fun x y u v W h hu hv=>sameT_c n x y u v W h hu hv) A B c d x.f5 y.f5 W c1 c2 hl.symm hk hn
end Go.Proofs.YtkplnbjgkhmbcaaGreatDoor
