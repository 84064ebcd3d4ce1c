/- HtA HashH -/
import Derived.Test.YtkplnbjgkhmbcaaGreatDoorU14
namespace Go.Proofs.YtkplnbjgkhmbcaaGreatDoor
open Go.RowKit Go.Shelf Go.Proofs.YtkplnbjgkhmbcaaGreatDoorW.PrintWords Go.Proofs.YtkplnbjgkhmbcaaGreatDoorW.PrintLast Go.Proofs.YtkplnbjgkhmbcaaGreatDoorW.PrintMore Go.Proofs.YtkplnbjgkhmbcaaGreatDoor.PFnCompare Go.Proofs.YtkplnbjgkhmbcaaGreatDoor.PCmp Go.Proofs.YtkplnbjgkhmbcaaGreatDoor.PbytesOf
set_option linter.unusedVariables false
set_option linter.unusedSimpArgs false
section
variable {w w':World} {g:Nat} {T:TypeId} {tab:Bool} {es:List HEnt} {it:Int}
theorem HTab.below (h:HTab w g T tab es it) (hb:Below w.heap.size w w'):HTab w' g T tab es it:=blk_below h hb
theorem HTab.c0 (h:HTab w g T tab es it):w.cell? ⟨g,0,none⟩=some (if tab then .slice (some ⟨g,1,none⟩) 1 1 else .slice none 0 0):=h.cell 0 (by decide)
theorem HTab.c41 (h:HTab w g T tab es it):w.cell? ⟨g,41,none⟩=some (.pointer none):=h.cell 41 (by decide)
theorem HTab.c42 (h:HTab w g T tab es it):w.cell? ⟨g,42,none⟩=some (.int .u32 es.length):=h.cell 42 (by decide)
theorem HTab.c43 (h:HTab w g T tab es it):w.cell? ⟨g,43,none⟩=some (.int .u32 it):=h.cell 43 (by decide)
theorem HTab.c44 (h:HTab w g T tab es it):w.cell? ⟨g,44,none⟩=some (if es.length=0 then .pointer none else .pointer (some ⟨g,36,none⟩)):=h.cell 44 (by decide)
theorem HTab.c45 (h:HTab w g T tab es it):w.cell? ⟨g,45,none⟩=some (if tab then prevP g es.length else .pointer none):=h.cell 45 (by decide)
theorem HTab.c46 (h:HTab w g T tab es it):w.cell? ⟨g,46,none⟩=some (.bool false):=h.cell 46 (by decide)
theorem HTab.slot (h:HTab w g T tab es it) (s f:Nat) (hs:s<8) (hf:f<5):w.cell? ⟨g,1+s*5+f,none⟩=some (slotF g es (7-s) f):=by
 have hc:=h.cell (1+s*5+f) (by omega)
 have e:htCell g tab es it (1+s*5+f)=slotF g es (7-s) f:=by
  unfold htCell
  rw[if_neg (by omega),if_pos (by omega),show(1+s*5+f-1)/5=s by omega,show(1+s*5+f-1)%5=f by omega]
 rw[hc,e]
theorem slot_empty (g:Nat) (es:List HEnt) (i:Nat) (h:es.length≤i):slotF g es i 0= .int .u32 0:=by
 unfold slotF
 rw[List.getElem?_eq_none h]
 rfl
theorem slot_full (g:Nat) (es:List HEnt) (i:Nat) (h:i<es.length):slotF g es i 0= .int .u32 es[i].h∧slotF g es i 1=es[i].k∧slotF g es i 2=es[i].v∧slotF g es i 3=nextP g es.length i:=by
 unfold slotF
 rw[List.getElem?_eq_getElem h]
 exact⟨rfl,rfl,rfl,rfl⟩
end
def tailO (k:Nat):Nat:=if k=0 then 44 else 1+5*(8-k)+3
theorem htArr_push (g:Nat) (e:HEnt): ∀(es:List HEnt),es.length<8→
 (((((((htArr g true es 0).setIfInBounds (1+5*(7-es.length)) (.int .u32 e.h)).setIfInBounds (1+5*(7-es.length)+1) e.k).setIfInBounds (1+5*(7-es.length)+2) e.v).setIfInBounds (1+5*(7-es.length)+4) (prevP g es.length)).setIfInBounds (tailO es.length) (.pointer (some ⟨g,1+5*(7-es.length),none⟩))).setIfInBounds 45 (.pointer (some ⟨g,1+5*(7-es.length)+3,none⟩))).setIfInBounds 42 (.int .u32 (es.length+1:Nat))=htArr g true (es++[e]) 0
 |[],_=>by kernel_rfl
 |[_],_=>by kernel_rfl
 |[_,_],_=>by kernel_rfl
 |[_,_,_],_=>by kernel_rfl
 |[_,_,_,_],_=>by kernel_rfl
 |[_,_,_,_,_],_=>by kernel_rfl
 |[_,_,_,_,_,_],_=>by kernel_rfl
 |[_,_,_,_,_,_,_],_=>by kernel_rfl
 |_::_::_::_::_::_::_::_::_,h=>absurd h (by simp only[List.length_cons];omega)
abbrev zeroHT:Array Value:=#[.slice none 0 0, .int .u32 0, .nilIface, .nilIface, .pointer none, .pointer none, .int .u32 0, .nilIface, .nilIface, .pointer none, .pointer none, .int .u32 0, .nilIface, .nilIface, .pointer none, .pointer none, .int .u32 0, .nilIface, .nilIface, .pointer none, .pointer none, .int .u32 0, .nilIface, .nilIface, .pointer none, .pointer none, .int .u32 0, .nilIface, .nilIface, .pointer none, .pointer none, .int .u32 0, .nilIface, .nilIface, .pointer none, .pointer none, .int .u32 0, .nilIface, .nilIface, .pointer none, .pointer none, .pointer none, .int .u32 0, .int .u32 0, .pointer none, .pointer none, .bool false]
theorem ht_zero (g:Nat):zeroHT=htArr g false [] 0:=by kernel_rfl
theorem ht_new (w:World) (T:TypeId):HTab (w.alloc (.cells zeroHT T)) w.heap.size T false [] 0:=by rw[ht_zero w.heap.size];exact blk_new _ _
theorem htArr_init (g:Nat):((htArr g false [] 0).setIfInBounds 0 (.slice (some ⟨g,1,none⟩) 1 1)).setIfInBounds 45 (.pointer (some ⟨g,44,none⟩))=htArr g true [] 0:=by kernel_rfl
theorem HTab.push {w:World} {g:Nat} {T:TypeId} {es:List HEnt} (h:HTab w g T true es 0) (hk:es.length<8) (e:HEnt):
 HTab (((((((w.setCell ⟨g,1+5*(7-es.length),none⟩ (.int .u32 e.h)).setCell ⟨g,1+5*(7-es.length)+1,none⟩ e.k).setCell ⟨g,1+5*(7-es.length)+2,none⟩ e.v).setCell ⟨g,1+5*(7-es.length)+4,none⟩ (prevP g es.length)).setCell ⟨g,tailO es.length,none⟩ (.pointer (some ⟨g,1+5*(7-es.length),none⟩))).setCell ⟨g,45,none⟩ (.pointer (some ⟨g,1+5*(7-es.length)+3,none⟩))).setCell ⟨g,42,none⟩ (.int .u32 (es.length+1:Nat))) g T true (es++[e]) 0:=
 blk_put (blk_put (blk_put (blk_put (blk_put (blk_put (blk_put h _ _ rfl) _ _ rfl) _ _ rfl) _ _ rfl) _ _ rfl) _ _ rfl) _ _ (htArr_push g e es hk)
theorem HTab.init {w:World} {g:Nat} {T:TypeId} (h:HTab w g T false [] 0):HTab ((w.setCell ⟨g,0,none⟩ (.slice (some ⟨g,1,none⟩) 1 1)).setCell ⟨g,45,none⟩ (.pointer (some ⟨g,44,none⟩))) g T true [] 0:=
 blk_put (blk_put h _ _ rfl) _ _ (htArr_init g)
theorem htMutable_c (g:Nat) (T:TypeId) (tab:Bool) (es:List HEnt) (s:ByteArray) (w:World) (h:HTab w g T tab es 0):Calls Tryz.prog 156 #[.pointer (some ⟨g,0,none⟩), .string s] w fun e w'=>e= .returned .nilIface∧w'=w:=by
 have c43:=h.c43
 have c46:=h.c46
 clear h
 go_enter Tryz.func156,Tryz.ntmps156
 go_wp2
 go_ret
 exact⟨rfl,rfl⟩
theorem overloaded_c (k n:Nat) (w:World) (hk:k<8):Calls Tryz.prog 158 #[.int .i64 k, .int .i64 n] w fun e w'=>e= .returned (.bool false)∧w'=w:=by
 have hd:decide ((8:Int)≤k)=false:=by simp;omega
 have hd2:decide ((k:Int)≥8)=false:=hd
 clear hk
 go_enter Tryz.func158,Tryz.ntmps158
 go_wp2
 go_ret
 exact⟨rfl,rfl⟩
set_option maxRecDepth 100000 in
theorem htInit_c (g:Nat) (T:TypeId) (w:World) (h:HTab w g T false [] 0):Calls Tryz.prog 157 #[.pointer (some ⟨g,0,none⟩), .int .i64 1] w fun e w'=>e= .returned (.tuple #[])∧HTab w' g T true [] 0∧Below g w w':=by
 have HO:Hid (∀w:World,Calls Tryz.prog 158 #[.int .i64 1, .int .i64 1] w fun e w'=>e= .returned (.bool false)∧w'=w):=Lib.hid fun w=>overloaded_c 1 1 w (by decide)
 have HE:=Lib.hid h.init
 have c0:=h.c0
 have c44:=h.c44
 have c45:=h.c45
 have f0:=h.free 0
 have f45:=h.free 45
 have HB:Hid (Below g w ((w.setCell ⟨g,0,none⟩ (.slice (some ⟨g,1,none⟩) 1 1)).setCell ⟨g,45,none⟩ (.pointer (some ⟨g,44,none⟩)))):=Lib.hid (((Below.refl g w).setCell (p:=⟨g,0,none⟩) (Nat.le_refl _) _).setCell (p:=⟨g,45,none⟩) (Nat.le_refl _) _)
 clear h
 go_enter Tryz.func157,Tryz.ntmps157
 go_wp2_with fail
 refine wp_loop_rounds 1 ?_
 rw[rounds_succ]
 go_wp2_with (go_at_call 158;(with_reducible refine(HO.out _).mono ?_);rintro e w1 ⟨rfl,rfl⟩)
 go_end0
 exact⟨rfl,HE.out,HB.out⟩
structure HashAt (T:TypeId) (x:Value) (K:FuncId):Prop where
 m: ∀w,(method 560 T x "Hash").run Tryz.prog w= .ok (K,x) w
 e: ∀args w,(callFunc K args).run Tryz.prog w= .ok (.enter K args) w
def HashC (w:World) (v:Value) (h:Int):Prop:= ∃T x K,v= .iface T x∧HashAt T x K∧ ∀W,Below w.heap.size w W→Calls Tryz.prog K #[x] W fun e W'=>e= .returned (.tuple #[.int .u32 h, .nilIface])∧Below W.heap.size W W'
theorem HashC.below {w w':World} {v:Value} {h:Int} (hc:HashC w v h) (hb:Below w.heap.size w w'):HashC w' v h:=by
 obtain⟨T,x,K,e,ha,hk⟩:=hc
 exact⟨T,x,K,e,ha,fun W hW=>hk W (hb.trans (hW.mono hb.size))⟩
theorem methHashNoneType (v:Value) (w:World):(method 560 137 v "Hash").run Tryz.prog w= .ok (344,v) w:=by kernel_rfl
theorem methHashBool (v:Value) (w:World):(method 560 138 v "Hash").run Tryz.prog w= .ok (350,v) w:=by kernel_rfl
theorem methHashInt (v:Value) (w:World):(method 560 122 v "Hash").run Tryz.prog w= .ok (323,v) w:=by kernel_rfl
theorem methHashFloat (v:Value) (w:World):(method 560 123 v "Hash").run Tryz.prog w= .ok (331,v) w:=by kernel_rfl
theorem methHashString (v:Value) (w:World):(method 560 141 v "Hash").run Tryz.prog w= .ok (357,v) w:=by kernel_rfl
theorem methHashBytes (v:Value) (w:World):(method 560 142 v "Hash").run Tryz.prog w= .ok (371,v) w:=by kernel_rfl
theorem methHashTuple (v:Value) (w:World):(method 560 98 v "Hash").run Tryz.prog w= .ok (289,v) w:=by kernel_rfl
theorem hashC_sca {B:Nat} {w:World} {v:Value} {s:Sca} (h:ScaV B w v s) (hf:s.fit):HashC w v (hashS s):=by
 cases s
 ·cases h
  exact⟨_,_,344,rfl,⟨methHashNoneType _,enters_of Tryz.func344 (by kernel_rfl) rfl⟩,fun W _=>hashNone_c _ W⟩
 ·cases h
  exact⟨_,_,350,rfl,⟨methHashBool _,enters_of Tryz.func350 (by kernel_rfl) rfl⟩,fun W _=>hashBool_c _ W⟩
 ·obtain⟨u,rfl,h⟩:=h
  exact⟨_,_,323,rfl,⟨methHashInt _,enters_of Tryz.func323 (by kernel_rfl) rfl⟩,fun W hW=>hashInt_c _ _ W (h.below hW).hi⟩
 ·cases h
  exact⟨_,_,331,rfl,⟨methHashFloat _,enters_of Tryz.func331 (by kernel_rfl) rfl⟩,fun W _=>hashFloat_c _ W hf⟩
 ·cases h
  exact⟨_,_,357,rfl,⟨methHashString _,enters_of Tryz.func357 (by kernel_rfl) rfl⟩,fun W _=>hashStr_c _ W hf⟩
 ·cases h
  exact⟨_,_,371,rfl,⟨methHashBytes _,enters_of Tryz.func371 (by kernel_rfl) rfl⟩,fun W _=>hashBytes_c _ W hf⟩
theorem tupFold_succ (n:Int) (l:List Int) (k:Nat) (h:k<l.length):tupFold n (l.take (k+1))=tupStep n (tupFold n (l.take k)) l[k]:=by
 unfold tupFold
 rw[List.take_succ_eq_append_getElem h,List.foldl_append]
 rfl
set_option maxRecDepth 100000 in
set_option maxHeartbeats 1000000 in
theorem hashTup_c (A:Option Addr) (c:Nat) (us:List Value) (hs:List Int) (w:World) (hl:hs.length=us.length) (hn:us.length≤1000)
 (hrow:us≠[]→ ∃M o,A=some ⟨M,o,none⟩∧ ∀i (h:i<us.length),w.cell? ⟨M,o+i,none⟩=some us[i])
 (hc: ∀i (h1:i<us.length) (h2:i<hs.length),HashC w us[i] hs[i]):
 Calls Tryz.prog 289 #[.slice A us.length c] w fun e w'=>e= .returned (.tuple #[.int .u32 (tupFold (us.length:Int) hs).1, .nilIface])∧Below w.heap.size w w':=by
 have HR:=Lib.hid hrow
 have HC:=Lib.hid hc
 clear hrow hc
 go_enter Tryz.func289,Tryz.ntmps289
 go_wp2_with fail
 go_loopw [4,5,12] (fun x mu i wr=> ∃(j:Nat),j≤us.length∧i= .int .i64 (j:Int)∧x= .int .u32 (tupFold (us.length:Int) (hs.take j)).1∧mu= .int .u32 (tupFold (us.length:Int) (hs.take j)).2∧Hid (Below w.heap.size w wr)) (fun _ _ i _=>us.length-(intOf i).toNat)
 case atStart=>exact⟨0,Nat.zero_le _,rfl,rfl,rfl,Lib.hid (Below.refl _ _)⟩
 case round=>
  obtain⟨j,hj,rfl,rfl,rfl,HB⟩:=hrel
  by_cases hlt:j<us.length
  ·have hlt2:j<hs.length:=by omega
   obtain⟨M,o,rfl,hcell⟩:=HR.out (fun e=>by rw[e] at hlt;simp at hlt)
   have HF:=Lib.hid (tupFold_succ (us.length:Int) hs j hlt2)
   obtain⟨T,x,K,hv,⟨hm,he⟩,hk⟩:=HC.out j hlt hlt2
   have cj:=(HB.out.cell (p:=⟨M,o+j,none⟩) (lt_of_cell (hcell j hlt))).trans (hcell j hlt)
   rw[hv] at cj
   have HK:=Lib.hid (fun W hW=>hk W hW)
   obtain⟨st,hst⟩: ∃st,tupFold (us.length:Int) (hs.take j)=st:=⟨_,rfl⟩
   obtain⟨y,hy⟩: ∃y,hs[j]=y:=⟨_,rfl⟩
   rw[hst] at HF⊢
   rw[hy] at HF HK
   obtain⟨x0,mu0⟩:=st
   clear hcell hk hv hst hy
   go_wp2_with (go_at_fn K;(with_reducible refine(HK.out _ HB.out).mono ?_);rintro e w1 ⟨rfl,hb1⟩;(replace HB:=Lib.hid (HB.out.trans (hb1.mono HB.out.size)));clear hb1)
   go_roundw
   case rel=>exact⟨j+1,by omega,by go_num,by rw[HF.out];rfl,(by
    rw[HF.out]
    show Value.int .u32 _=Value.int .u32 (IntKind.u32.wrap (mu0+IntKind.u32.wrap (82520+IntKind.u32.wrap ((us.length:Int)+us.length))))
    rw[wrap32,wrap32,wrap32]
    congr 1
    omega),HB⟩
   case measure=>simp[intOf];omega
  ·have hje:j=us.length:=by omega
   subst hje
   rw[List.take_of_length_le (by omega)]
   go_wp2
   go_ret2
   exact⟨rfl,HB.out⟩
theorem hashC_tree: ∀(n B:Nat) (w:World) (v:Value) (x:VT),PV B n w v x→HC n x→n≤8→HashC w v (hT x)
 |n,B,w,v,x,h,hx,hn=>by
  rcases hx.cases with⟨s,hs,hf⟩|⟨k7,hbox,hl,m,rfl,hk⟩
  ·obtain⟨t,ht,hft,hv⟩:=h.to_s (by rw[hs.kind];cases s<;>simp[Sca.kind])
   rw[hT_sca ht]
   exact hashC_sca hv hft
  ·rcases h with h|⟨_,⟨h6,_⟩|⟨_,sl,rfl,A,c,us,rfl,hc,hul,hrow,hP⟩|⟨h8,_⟩|⟨h9,_⟩⟩
   ·exfalso;have:=h.kind;omega
   ·exfalso;omega
   ·rw[hT_tup hx hn k7,←hul]
    refine⟨_,_,289,rfl,⟨methHashTuple _,enters_of Tryz.func289 (by kernel_rfl) rfl⟩,fun W hW=>hashTup_c A c us (x.f5.map hT) W (by rw[List.length_map,hul]) (by omega) (fun hne=>?_) fun i h1 h2=>?_⟩
    ·obtain⟨M,o,e,_,hcell⟩:=hrow hne
     exact⟨M,o,e,fun i hi=>(hW.cell (p:=⟨M,o+i,none⟩) (lt_of_cell (hcell i hi))).trans (hcell i hi)⟩
    ·have h2':i<x.f5.length:=by simpa using h2
     have:=hashC_tree m B w us[i] x.f5[i] (hP i h1 h2') (hk _ (List.getElem_mem h2')) (by omega)
     rw[List.getElem_map]
     exact this.below hW
   ·exfalso;omega
   ·exfalso;omega
end Go.Proofs.YtkplnbjgkhmbcaaGreatDoor
