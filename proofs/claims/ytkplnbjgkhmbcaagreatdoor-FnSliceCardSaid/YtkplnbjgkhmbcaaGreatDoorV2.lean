/- SlE SlF -/
import Derived.Test.YtkplnbjgkhmbcaaGreatDoorV1
import Derived.BigRegion
import Derived.Deep.RegionWith
namespace Go.Proofs.YtkplnbjgkhmbcaaGreatDoor
open Go.RowKit Go.Shelf Go.Proofs.YtkplnbjgkhmbcaaGreatDoorW.PrintWords Go.Proofs.YtkplnbjgkhmbcaaGreatDoorW.PrintLast Go.Proofs.YtkplnbjgkhmbcaaGreatDoorW.PrintMore Go.Proofs.YtkplnbjgkhmbcaaGreatDoor.PFnCompare Go.Proofs.YtkplnbjgkhmbcaaGreatDoor.PCmp Go.Proofs.YtkplnbjgkhmbcaaGreatDoor.PbytesOf
set_option linter.unusedVariables false
set_option linter.unusedSimpArgs false
def LTi (w:World) (g:Nat) (v:Value) (it:Int):Prop:=w.heap[g]?=some (.cells #[v, .bool false, .int .u32 it] 167 (0,0))
def ItL (w:World) (K g j:Nat):Prop:=w.heap[K]?=some (.cells #[.pointer (some ⟨g,0,none⟩), .int .i64 (j:Int)] 215 (0,0))
def itLW (w:World) (g:Nat):World:=(w.setCell ⟨g,2,none⟩ (.int .u32 1)).alloc (.cells #[.pointer (some ⟨g,0,none⟩), .int .i64 0] 215)
theorem LTi.set {w:World} {g:Nat} {v:Value} {a:Int} (h:LTi w g v a) (b:Int):LTi (w.setCell ⟨g,2,none⟩ (.int .u32 b)) g v b:=blk_put h 2 _ rfl
set_option maxRecDepth 100000 in
theorem listIterate_c (g:Nat) (v:Value) (w:World) (h:LT w g v):Calls Tryz.prog 73 #[.pointer (some ⟨g,0,none⟩)] w fun e w'=>e= .returned (.iface 213 (.pointer (some ⟨w.heap.size,0,none⟩)))∧w'=itLW w g:=by
 have c1:=blk_cell h 1 _ rfl
 have c2:=blk_cell h 2 _ rfl
 have f2:=blk_free h 2
 have hz:Hid ((w.setCell ⟨g,2,none⟩ (.int .u32 1)).heap.size=w.heap.size):=Lib.hid (by simp[World.setCell])
 clear h
 go_enter Tryz.func73,Tryz.ntmps73
 go_wp2
 go_ret
 exact⟨by rw[←hz.out];rfl,rfl⟩
set_option maxRecDepth 100000 in
theorem listDone_c (K g j:Nat) (v:Value) (w:World) (hI:ItL w K g j) (h:LTi w g v 1):Calls Tryz.prog 385 #[.pointer (some ⟨K,0,none⟩)] w fun e w'=>e= .returned (.tuple #[])∧w'=w.setCell ⟨g,2,none⟩ (.int .u32 0):=by
 have c1:=blk_cell h 1 _ rfl
 have c2:=blk_cell h 2 _ rfl
 have f2:=blk_free h 2
 have k0:=blk_cell hI 0 _ rfl
 clear h hI
 go_enter Tryz.func385,Tryz.ntmps385
 go_wp2
 go_end0
 exact⟨rfl,rfl⟩
set_option maxRecDepth 100000 in
theorem listNextEnd_c (K X g:Nat) (us:List Value) (sl:Value) (it:Int) (w:World) (hI:ItL w K g us.length) (h:LTi w g sl it) (hR:RW w sl us) (hn:us.length≤1000000):Calls Tryz.prog 386 #[.pointer (some ⟨K,0,none⟩), .pointer (some ⟨X,0,none⟩)] w fun e w'=>e= .returned (.bool false)∧Below w.heap.size w w':=by
 obtain⟨A,c,rfl,_⟩:=hR
 have HL:Hid (∀W,Below w.heap.size w W→Calls Tryz.prog 122 #[.pointer (some ⟨g,0,none⟩)] W fun e w'=>e= .returned (.int .i64 us.length)∧w'=W):=Lib.hid fun W hW=>by
  have c0:=blk_cell (blk_below h hW) 0 _ rfl
  clear h hI
  go_enter Tryz.func122,Tryz.ntmps122
  go_wp2
  go_ret
  exact⟨rfl,rfl⟩
 have k0:=blk_cell hI 0 _ rfl
 have k1:=blk_cell hI 1 _ rfl
 clear h hI
 go_enter Tryz.func386,Tryz.ntmps386
 go_upto_region 1 with fail
 go_region_with (go_at_call 122;(with_reducible refine(HL.out _ (by first|exact Below.refl _ _|exact(Below.refl _ _).drew)).mono ?_);rintro e w1 ⟨rfl,hw1⟩;have hw2:=hw1.symm;clear hw1;subst hw2)
 all_goals go_wp2
 all_goals go_ret
 all_goals exact⟨rfl,by first|exact Below.refl _ _|exact(Below.refl _ _).drew⟩
structure StepL (w:World) (K X g j:Nat) (key:Value) (w':World):Prop where
 it:ItL w' K g (j+1)
 xb:w'.heap[X]?=some (.cells #[key] 57 (0,0))
 far: ∀k,k≠K→k≠X→w'.heap[k]?=w.heap[k]?
 size:w'.heap.size=w.heap.size
 low: ∀w0:World,w0.heap.size≤K→w0.heap.size≤X→Below w0.heap.size w0 w→Below w0.heap.size w0 w'
theorem stepL_of {w:World} {K X g j:Nat} {u key:Value} (hne:X≠K) (hI:ItL w K g j) (hx:w.heap[X]?=some (.cells #[u] 57 (0,0))):StepL w K X g j key ((w.setCell ⟨X,0,none⟩ key).setCell ⟨K,1,none⟩ (.int .i64 ((j+1:Nat):Int))):=by
 refine⟨?_,?_,fun k h1 h2=>?_,by simp[World.setCell],fun w0 h1 h2 hb=>(hb.setCell (p:=⟨X,0,none⟩) h2 _).setCell (p:=⟨K,1,none⟩) h1 _⟩
 ·exact blk_put (((heap_far w ⟨X,0,none⟩ key K (fun e=>hne e.symm)).trans hI)) 1 _ rfl
 ·exact(heap_far _ ⟨K,1,none⟩ _ X hne).trans (blk_put hx 0 _ rfl)
 ·rw[heap_far _ ⟨K,1,none⟩ _ k h1,heap_far w ⟨X,0,none⟩ _ k h2]
theorem StepL.drew {w:World} {K X g j:Nat} {key:Value} {w':World} (h:StepL w.drew K X g j key w'):StepL w K X g j key w':=
 ⟨h.it,h.xb,h.far,h.size,fun w0 h1 h2 hb=>h.low w0 h1 h2 hb.drew⟩
theorem StepL.drew2 {w:World} {K X g j:Nat} {key:Value} {w':World} (h:StepL w K X g j key w'):StepL w K X g j key w'.drew:=
 ⟨h.it,h.xb,h.far,h.size,fun w0 h1 h2 hb=>(h.low w0 h1 h2 hb).drew⟩
set_option maxRecDepth 100000 in
set_option maxHeartbeats 1000000 in
theorem listNext_c (K X g j:Nat) (us:List Value) (sl u:Value) (it:Int) (w:World) (hI:ItL w K g j) (h:LTi w g sl it) (hR:RW w sl us) (hn:us.length≤1000000) (hj:j<us.length) (hif: ∃T x,us[j]= .iface T x) (hx:w.heap[X]?=some (.cells #[u] 57 (0,0))) (hXK:X≠K) (hXg:X≠g) (hR2: ∀M o A c,sl= .slice (some ⟨M,o,none⟩) A c→M≠X):
 Calls Tryz.prog 386 #[.pointer (some ⟨K,0,none⟩), .pointer (some ⟨X,0,none⟩)] w fun e w'=>e= .returned (.bool true)∧StepL w K X g j us[j] w':=by
 obtain⟨M,o,c,rfl,hc,hcell⟩:=rw_one hR j hj
 obtain⟨T,xv,hxv⟩:=hif
 rw[hxv] at hcell⊢
 have HL:Hid (∀W,Below w.heap.size w W→Calls Tryz.prog 122 #[.pointer (some ⟨g,0,none⟩)] W fun e w'=>e= .returned (.int .i64 us.length)∧w'=W):=Lib.hid fun W hW=>by
  have c0:=blk_cell (blk_below h hW) 0 _ rfl
  clear h hI
  go_enter Tryz.func122,Tryz.ntmps122
  go_wp2
  go_ret
  exact⟨rfl,rfl⟩
 have HD:Hid (ItL w K g j∧LTi w g (.slice (some ⟨M,o,none⟩) us.length c) it∧w.cell? ⟨M,o+j,none⟩=some (.iface T xv)∧w.heap[X]?=some (.cells #[u] 57 (0,0))):=Lib.hid ⟨hI,h,hcell,hx⟩
 have k0:=blk_cell hI 0 _ rfl
 have k1:=blk_cell hI 1 _ rfl
 have hlt:(j:Int)<us.length:=by omega
 clear h hI hcell hx hR
 go_enter Tryz.func386,Tryz.ntmps386
 go_upto_region 1 with fail
 go_cut [14] (fun a wx=>a= .bool true∧wx=w.drew)
 case first=>
  go_region_with (go_at_call 122;(with_reducible refine(HL.out _ (by first|exact Below.refl _ _|exact(Below.refl _ _).drew)).mono ?_);rintro e w1 ⟨rfl,hw1⟩;have hw2:=hw1.symm;clear hw1;subst hw2)
  all_goals go_wp2
  all_goals go_meet
  all_goals exact⟨rfl,rfl⟩
 case rest=>
  obtain⟨rfl,rfl⟩:=hcut
  obtain⟨W,hW⟩: ∃W,W=w.drew:=⟨_,rfl⟩
  have HD2:Hid (ItL W K g j∧LTi W g (.slice (some ⟨M,o,none⟩) us.length c) it∧W.cell? ⟨M,o+j,none⟩=some (.iface T xv)∧W.heap[X]?=some (.cells #[u] 57 (0,0))):=by rw[hW];exact HD
  have hst:StepL W K X g j (.iface T xv) ((W.setCell ⟨X,0,none⟩ (.iface T xv)).setCell ⟨K,1,none⟩ (.int .i64 ((j+1:Nat):Int))):=stepL_of hXK HD2.out.1 HD2.out.2.2.2
  obtain⟨W1,hW1⟩: ∃W1,W1=(W.setCell ⟨X,0,none⟩ (.iface T xv)).drew:=⟨_,rfl⟩
  have HR:Hid (StepL w K X g j (.iface T xv) (W1.setCell ⟨K,1,none⟩ (.int .i64 ((j:Int)+1)))):=by rw[hW1,hW];rw[hW,Int.natCast_add,Int.natCast_one] at hst;exact Lib.hid hst.drew.drew2
  have hI1:ItL W1 K g j:=by rw[hW1];exact(heap_far W ⟨X,0,none⟩ _ K (fun e=>hXK e.symm)).trans HD2.out.1
  have q0:=blk_cell hI1 0 _ rfl
  have q1:=blk_cell hI1 1 _ rfl
  have f1:=blk_free hI1 1
  have ej:wrap64 ((j:Int)+1)=(j:Int)+1:=by unfold wrap64;omega
  clear hst hI1
  rw[←hW]
  clear hW HL HD k0 k1
  have k0:=blk_cell HD2.out.1 0 _ rfl
  have k1:=blk_cell HD2.out.1 1 _ rfl
  have c0:=blk_cell HD2.out.2.1 0 _ rfl
  have cj:=HD2.out.2.2.1
  have x0:=blk_cell HD2.out.2.2.2 0 _ rfl
  have fx:=blk_free HD2.out.2.2.2 0
  go_upto_region 2 with fail
  go_region
  rw[←hW1]
  clear hW1 k0 k1 c0 cj x0 fx
  go_wp2
  go_ret
  exact⟨rfl,HR.out⟩
end Go.Proofs.YtkplnbjgkhmbcaaGreatDoor
namespace Go.Proofs.YtkplnbjgkhmbcaaGreatDoor
open Go.RowKit Go.Shelf Go.Proofs.YtkplnbjgkhmbcaaGreatDoorW.PrintWords Go.Proofs.YtkplnbjgkhmbcaaGreatDoorW.PrintLast Go.Proofs.YtkplnbjgkhmbcaaGreatDoorW.PrintMore Go.Proofs.YtkplnbjgkhmbcaaGreatDoor.PFnCompare Go.Proofs.YtkplnbjgkhmbcaaGreatDoor.PCmp Go.Proofs.YtkplnbjgkhmbcaaGreatDoor.PbytesOf
set_option linter.unusedVariables false
set_option linter.unusedSimpArgs false
theorem methNextL (v:Value) (w:World):(method 560 213 v "Next").run Tryz.prog w= .ok (386,v) w:=by kernel_rfl
theorem methDoneL (v:Value) (w:World):(method 560 213 v "Done").run Tryz.prog w= .ok (385,v) w:=by kernel_rfl
theorem own_far {w w':World} {X:Nat} {T:TypeId} {n:Nat} {v:Value} {us:List Value} (h:w.ownsRow (X+1) T 1 v n us) (hf: ∀k,X<k→w'.heap[k]?=w.heap[k]?):w'.ownsRow (X+1) T 1 v n us:=by
 refine⟨h.1,?_⟩
 rcases h.2 with h|⟨g,cap,cur,e,hb,hg,r⟩
 ·exact Or.inl h
 ·exact Or.inr ⟨g,cap,cur,e,hb,(hf g (by omega)).trans hg,r⟩
def rowLen (v:Value):Nat:=match v with
 | .slice _ n _=>n
 |_=>0
theorem own_len {w:World} {B n:Nat} {T:TypeId} {v:Value} {us:List Value} (h:w.ownsRow B T 1 v n us):rowLen v=n:=by
 rcases h.2 with⟨rfl,rfl⟩|⟨g,cap,cur,rfl,_⟩<;>rfl
structure Iter (us:List Value) (K X:Nat) (fN fD:FuncId) (Mid:Nat→World→Prop) (Fin:World→Prop):Prop where
 sz: ∀j wr,Mid j wr→X<wr.heap.size
 nx: ∀j (hj:j<us.length) wr,Mid j wr→Calls Tryz.prog fN #[.pointer (some ⟨K,0,none⟩), .pointer (some ⟨X,0,none⟩)] wr fun e w'=>e= .returned (.bool true)∧Mid (j+1) w'∧w'.cell? ⟨X,0,none⟩=some us[j]∧ ∀k,X<k→w'.heap[k]?=wr.heap[k]?
 nd: ∀wr,Mid us.length wr→Calls Tryz.prog fN #[.pointer (some ⟨K,0,none⟩), .pointer (some ⟨X,0,none⟩)] wr fun e w'=>e= .returned (.bool false)∧Mid us.length w'∧ ∀k,X<k→k<wr.heap.size→w'.heap[k]?=wr.heap[k]?
 ap: ∀j wr w2,Mid j wr→Below (X+1) wr w2→Mid j w2
 dn: ∀wr,Mid us.length wr→Calls Tryz.prog fD #[.pointer (some ⟨K,0,none⟩)] wr fun e w'=>e= .returned (.tuple #[])∧Fin w'∧ ∀k,X<k→w'.heap[k]?=wr.heap[k]?
theorem own_far2 {w w':World} {X:Nat} {T:TypeId} {n:Nat} {v:Value} {us:List Value} (h:w.ownsRow (X+1) T 1 v n us) (hf: ∀k,X<k→k<w.heap.size→w'.heap[k]?=w.heap[k]?):w'.ownsRow (X+1) T 1 v n us:=by
 refine⟨h.1,?_⟩
 rcases h.2 with h|⟨g,cap,cur,e,hb,hg,r⟩
 ·exact Or.inl h
 ·exact Or.inr ⟨g,cap,cur,e,hb,(hf g (by omega) (lt_blk hg)).trans hg,r⟩
set_option maxRecDepth 100000 in
set_option maxHeartbeats 1000000 in
theorem goneL_c (us:List Value) (K:Nat) (w:World) (Mid:Nat→World→Prop) (Fin:World→Prop) (HI:Iter us K w.heap.size 386 385 Mid Fin) (h0:Mid 0 (w.alloc (.cells #[.nilIface] 57))) (hif: ∀u∈us,∃T x,u= .iface T x) (hn:us.length≤1000000):
 Calls Tryz.prog 72 #[.iface 213 (.pointer (some ⟨K,0,none⟩))] w fun e w'=> ∃v,e= .returned v∧RW w' v us∧Fin w':=by
 have HII:=Lib.hid HI
 have H0:=Lib.hid h0
 have HIF:=Lib.hid hif
 have hmn:=methNextL (.pointer (some ⟨K,0,none⟩))
 have hmd:=methDoneL (.pointer (some ⟨K,0,none⟩))
 clear HI h0 hif
 go_enter Tryz.func72,Tryz.ntmps72
 go_wp2_with fail
 obtain⟨W0,hW0⟩: ∃W,W=w.alloc (.cells #[.nilIface] 57):=⟨_,rfl⟩
 rw[←hW0] at H0
 rw[←hW0]
 clear hW0
 go_loopw [2] (fun v wr=> ∃j:Nat,j≤us.length∧Hid (Mid j wr∧wr.ownsRow (w.heap.size+1) 57 1 v j (us.take j))) (fun v _=>us.length-rowLen v)
 case atStart=>exact⟨0,Nat.zero_le _,Lib.hid ⟨H0.out,by simp[World.ownsRow]⟩⟩
 case round=>
  obtain⟨j,hj,HR⟩:=hrel
  by_cases hlt:j<us.length
  ·have HN:=Lib.hid (HII.out.nx j hlt wr HR.out.1)
   obtain⟨T,x,hx⟩:=HIF.out _ (List.getElem_mem hlt)
   rw[hx] at HN
   have HX:=Lib.hid hx
   have HLT:=Lib.hid hlt
   clear hx
   go_wp2_with (first
    |(at_builtin;refine print_append_cells (w0:=w1) (w.heap.size+1) rfl _ _ 94 57 .nilIface 1 16 rfl Tryz.underlying94 valInfo rfl (by decide) (by decide) u2 j (us.take j) [.iface T x] rfl rfl rfl (by intro u hu;rw[List.mem_singleton] at hu;subst hu;rfl) HO.out.2 (Below.refl _ _) HO.out.1 (by omega) ?_;intro v1 w2 ho hb2 hg hat;have HO2:=Lib.hid (And.intro ho hb2);clear ho hb2 hg hat)
    |(go_at_call 386;(with_reducible refine HN.out.mono ?_);rintro e w1 ⟨rfl,hm,hxc,hfar⟩;have HO:=Lib.hid (And.intro (HII.out.sz _ _ hm) (own_far HR.out.2 hfar));have HM:=Lib.hid hm;clear hm hfar))
   go_roundw
   case rel=>
    refine⟨j+1,HLT.out,Lib.hid ⟨HII.out.ap _ _ _ HM.out HO2.out.2,?_⟩⟩
    have:=HO2.out.1
    rw[←HX.out] at this
    rw[List.take_succ_eq_append_getElem HLT.out]
    exact this
   case measure=>
    rw[own_len HR.out.2,own_len HO2.out.1]
    have:=HLT.out
    omega
  ·obtain rfl:j=us.length:=by omega
   have HN:=Lib.hid (HII.out.nd wr HR.out.1)
   have HD:=Lib.hid (fun W (h:Mid us.length W)=>HII.out.dn W h)
   go_wp2_with (first
    |(go_at_call 386;(with_reducible refine HN.out.mono ?_);rintro e w1 ⟨rfl,hm,hfar⟩;have HO:=Lib.hid (And.intro hm (own_far2 HR.out.2 hfar));clear hm hfar)
    |(go_at_call 385;(with_reducible refine(HD.out _ HO.out.1).mono ?_);rintro e w2 ⟨rfl,hfin,hfar⟩;have HF:=Lib.hid (And.intro hfin (own_far HO.out.2 hfar));clear hfin hfar))
   go_ret
   refine⟨_,rfl,?_,HF.out.1⟩
   have:=HF.out.2
   rw[List.take_of_length_le (Nat.le_refl _)] at this
   exact rw_of_own this
set_option maxRecDepth 100000 in
set_option maxHeartbeats 1000000 in
theorem goneS_c (us:List Value) (K:Nat) (w:World) (Mid:Nat→World→Prop) (Fin:World→Prop) (HI:Iter us K w.heap.size 388 387 Mid Fin) (h0:Mid 0 (w.alloc (.cells #[.nilIface] 57))) (hif: ∀u∈us,∃T x,u= .iface T x) (hn:us.length≤1000000):
 Calls Tryz.prog 72 #[.iface 218 (.pointer (some ⟨K,0,none⟩))] w fun e w'=> ∃v,e= .returned v∧RW w' v us∧Fin w':=by
 have HII:=Lib.hid HI
 have H0:=Lib.hid h0
 have HIF:=Lib.hid hif
 have hmn:=methNext (.pointer (some ⟨K,0,none⟩))
 have hmd:=methDone (.pointer (some ⟨K,0,none⟩))
 clear HI h0 hif
 go_enter Tryz.func72,Tryz.ntmps72
 go_wp2_with fail
 obtain⟨W0,hW0⟩: ∃W,W=w.alloc (.cells #[.nilIface] 57):=⟨_,rfl⟩
 rw[←hW0] at H0
 rw[←hW0]
 clear hW0
 go_loopw [2] (fun v wr=> ∃j:Nat,j≤us.length∧Hid (Mid j wr∧wr.ownsRow (w.heap.size+1) 57 1 v j (us.take j))) (fun v _=>us.length-rowLen v)
 case atStart=>exact⟨0,Nat.zero_le _,Lib.hid ⟨H0.out,by simp[World.ownsRow]⟩⟩
 case round=>
  obtain⟨j,hj,HR⟩:=hrel
  by_cases hlt:j<us.length
  ·have HN:=Lib.hid (HII.out.nx j hlt wr HR.out.1)
   obtain⟨T,x,hx⟩:=HIF.out _ (List.getElem_mem hlt)
   rw[hx] at HN
   have HX:=Lib.hid hx
   have HLT:=Lib.hid hlt
   clear hx
   go_wp2_with (first
    |(at_builtin;refine print_append_cells (w0:=w1) (w.heap.size+1) rfl _ _ 94 57 .nilIface 1 16 rfl Tryz.underlying94 valInfo rfl (by decide) (by decide) u2 j (us.take j) [.iface T x] rfl rfl rfl (by intro u hu;rw[List.mem_singleton] at hu;subst hu;rfl) HO.out.2 (Below.refl _ _) HO.out.1 (by omega) ?_;intro v1 w2 ho hb2 hg hat;have HO2:=Lib.hid (And.intro ho hb2);clear ho hb2 hg hat)
    |(go_at_call 388;(with_reducible refine HN.out.mono ?_);rintro e w1 ⟨rfl,hm,hxc,hfar⟩;have HO:=Lib.hid (And.intro (HII.out.sz _ _ hm) (own_far HR.out.2 hfar));have HM:=Lib.hid hm;clear hm hfar))
   go_roundw
   case rel=>
    refine⟨j+1,HLT.out,Lib.hid ⟨HII.out.ap _ _ _ HM.out HO2.out.2,?_⟩⟩
    have:=HO2.out.1
    rw[←HX.out] at this
    rw[List.take_succ_eq_append_getElem HLT.out]
    exact this
   case measure=>
    rw[own_len HR.out.2,own_len HO2.out.1]
    have:=HLT.out
    omega
  ·obtain rfl:j=us.length:=by omega
   have HN:=Lib.hid (HII.out.nd wr HR.out.1)
   have HD:=Lib.hid (fun W (h:Mid us.length W)=>HII.out.dn W h)
   go_wp2_with (first
    |(go_at_call 388;(with_reducible refine HN.out.mono ?_);rintro e w1 ⟨rfl,hm,hfar⟩;have HO:=Lib.hid (And.intro hm (own_far2 HR.out.2 hfar));clear hm hfar)
    |(go_at_call 387;(with_reducible refine(HD.out _ HO.out.1).mono ?_);rintro e w2 ⟨rfl,hfin,hfar⟩;have HF:=Lib.hid (And.intro hfin (own_far HO.out.2 hfar));clear hfin hfar))
   go_ret
   refine⟨_,rfl,?_,HF.out.1⟩
   have:=HF.out.2
   rw[List.take_of_length_le (Nat.le_refl _)] at this
   exact rw_of_own this
theorem cell_itL {w:World} {g b o:Nat} {v u z:Value} {a:Int} (h:LTi w g v a) (hu:w.cell? ⟨b,o,none⟩=some u) (hne: ∀x,u≠ .int .u32 x):(w.setCell ⟨g,2,none⟩ z).cell? ⟨b,o,none⟩=some u:=by
 have hn:(⟨b,o,none⟩:Addr)≠⟨g,2,none⟩:=by
  intro e
  rw[e,blk_cell h 2 _ rfl] at hu
  exact hne _ (Option.some.inj hu).symm
 rw[World.cell?_setCell_other (h:=by first|exact hn|exact hn.symm),hu]
theorem rw_itL {w:World} {g:Nat} {sl v z:Value} {a:Int} {us:List Value} (h:LTi w g v a) (hR:RW w sl us) (hif: ∀u∈us,∃T x,u= .iface T x):RW (w.setCell ⟨g,2,none⟩ z) sl us:=by
 obtain⟨A,c,rfl,h1,h2⟩:=hR
 refine⟨A,c,rfl,h1,fun hne=>?_⟩
 obtain⟨M,o,rfl,hc⟩:=h2 hne
 refine⟨M,o,rfl,fun i hi=>cell_itL h (hc i hi) fun x e=>?_⟩
 obtain⟨T,y,e2⟩:=hif _ (List.getElem_mem hi)
 rw[e2] at e
 cases e
theorem below_itBackL {w W:World} {g:Nat} {sl:Value} (ht:LT w g sl) (h:Below w.heap.size (w.setCell ⟨g,2,none⟩ (.int .u32 1)) W):Below w.heap.size w (W.setCell ⟨g,2,none⟩ (.int .u32 0)):=by
 refine⟨h.os,h.tape,h.output,?_,fun k hk=>?_⟩
 ·have:=h.size
  simpa [World.setCell] using this
 ·by_cases e:k=g
  ·subst e
   have h1:LTi W k sl 1:=(h.block k hk).trans (LTi.set (a:=0) ht 1)
   exact(h1.set 0).trans ht.symm
  ·rw[heap_far W ⟨g,2,none⟩ _ k e,h.block k hk,heap_far w ⟨g,2,none⟩ _ k e]
structure MidL (w0:World) (K X g j:Nat) (wr:World):Prop where
 low:Below w0.heap.size w0 wr
 it:ItL wr K g j
 xb: ∃u,wr.heap[X]?=some (.cells #[u] 57 (0,0))
theorem goneList_c (g:Nat) (sl:Value) (us:List Value) (w:World) (h:LT w g sl) (hR:RW w sl us) (hif: ∀u∈us,∃T x,u= .iface T x) (hn:us.length≤1000000):
 Calls Tryz.prog 72 #[.iface 213 (.pointer (some ⟨w.heap.size,0,none⟩))] (itLW w g) fun e w'=> ∃v,e= .returned v∧RW w' v us∧Below w.heap.size w w':=by
 obtain⟨w0,hw0⟩: ∃w0,w0=w.setCell ⟨g,2,none⟩ (.int .u32 1):=⟨_,rfl⟩
 have hz:w0.heap.size=w.heap.size:=by rw[hw0];simp[World.setCell]
 have hX:(itLW w g).heap.size=w.heap.size+1:=by unfold itLW;rw[←hw0];simp[hz]
 have hgl:=lt_blk h
 have h0:LTi w0 g sl 1:=by rw[hw0];exact LTi.set (a:=0) h 1
 have hR0:RW w0 sl us:=by rw[hw0];exact rw_itL (a:=0) h hR hif
 have hb0:Below w0.heap.size w0 (itLW w g):=by unfold itLW;rw[←hw0];exact(Below.refl _ _).alloc (Nat.le_refl _) _
 have hI0:ItL (itLW w g) w.heap.size g 0:=by unfold itLW;rw[←hw0,←hz];exact blk_new w0 _
 have hmid0:MidL w0 w.heap.size (itLW w g).heap.size g 0 ((itLW w g).alloc (.cells #[.nilIface] 57)):=by
  have hb:=(Below.refl (itLW w g).heap.size (itLW w g)).alloc (Nat.le_refl _) (.cells #[.nilIface] 57)
  exact⟨hb0.trans (hb.mono hb0.size),blk_below hI0 hb,_,blk_new _ _⟩
 refine goneL_c us w.heap.size (itLW w g) (MidL w0 w.heap.size (itLW w g).heap.size g) (fun W=>Below w.heap.size w W) ⟨?_,?_,?_,?_,?_⟩ hmid0 hif hn
 ·intro j wr hm
  obtain⟨u,hu⟩:=hm.xb
  exact lt_blk hu
 ·intro j hj wr hm
  obtain⟨u,hu⟩:=hm.xb
  refine(listNext_c w.heap.size _ g j us sl u 1 wr hm.it (blk_below h0 hm.low) (hR0.below hm.low) hn hj (hif _ (List.getElem_mem hj)) hu (by omega) (by omega) ?_).mono ?_
  ·intro M o A c e
   obtain⟨M',o',c',e2,_,hc⟩:=rw_one hR j hj
   rw[e] at e2
   injection e2 with e3
   injection e3 with e3
   injection e3 with e3
   have:=lt_of_cell hc
   omega
  ·rintro e w' ⟨rfl,hs⟩
   exact⟨rfl,⟨hs.low w0 (by omega) (by omega) hm.low,hs.it,_,hs.xb⟩,blk_cell hs.xb 0 _ rfl,fun k hk=>hs.far k (by omega) (by omega)⟩
 ·intro wr hm
  obtain⟨u,hu⟩:=hm.xb
  refine(listNextEnd_c w.heap.size _ g us sl 1 wr hm.it (blk_below h0 hm.low) (hR0.below hm.low) hn).mono ?_
  rintro e w' ⟨rfl,hb⟩
  exact⟨rfl,⟨hm.low.trans (hb.mono hm.low.size),blk_below hm.it hb,_,blk_below hu hb⟩,fun k _ hk=>hb.block k hk⟩
 ·intro j wr w2 hm hb
  obtain⟨u,hu⟩:=hm.xb
  exact⟨hm.low.trans (hb.mono (by omega)),(hb.block _ (by omega)).trans hm.it,u,(hb.block _ (by omega)).trans hu⟩
 ·intro wr hm
  refine(listDone_c w.heap.size g _ sl wr hm.it (blk_below h0 hm.low)).mono ?_
  rintro e w' ⟨rfl,rfl⟩
  refine⟨rfl,below_itBackL h ?_,fun k hk=>heap_far wr ⟨g,2,none⟩ _ k (show k≠g by omega)⟩
  have:=hm.low
  rw[hz,hw0] at this
  exact this
set_option maxRecDepth 100000 in
theorem keyDone_c (K g n j:Nat) (T:TypeId) (tab:Bool) (es:List HEnt) (w:World) (hI:ItB w K g n j) (h:HTab w g T tab es 1):Calls Tryz.prog 387 #[.pointer (some ⟨K,0,none⟩)] w fun e w'=>e= .returned (.tuple #[])∧w'=w.setCell ⟨g,43,none⟩ (.int .u32 0):=by
 have c43:=h.c43
 have c46:=h.c46
 have f43:=h.free 43
 have k0:=blk_cell hI 0 _ rfl
 clear h hI
 go_enter Tryz.func387,Tryz.ntmps387
 go_wp2
 go_end0
 exact⟨rfl,rfl⟩
theorem goneSet_c (g:Nat) (T:TypeId) (tab:Bool) (es:List HEnt) (w:World) (h:HTab w g T tab es 0) (hk:es.length≤8) (hif: ∀j (hj:j<es.length),∃T x,es[j].k= .iface T x):
 Calls Tryz.prog 72 #[.iface 218 (.pointer (some ⟨w.heap.size,0,none⟩))] (itW w g es.length) fun e w'=> ∃v,e= .returned v∧RW w' v (es.map (·.k))∧Below w.heap.size w w':=by
 obtain⟨w0,hw0⟩: ∃w0,w0=w.setCell ⟨g,43,none⟩ (.int .u32 1):=⟨_,rfl⟩
 have hz:w0.heap.size=w.heap.size:=by rw[hw0];simp[World.setCell]
 have hX:(itW w g es.length).heap.size=w.heap.size+1:=by unfold itW;rw[←hw0];simp[hz]
 have hgl:=lt_blk h
 have h0:HTab w0 g T tab es 1:=by rw[hw0];exact h.setIt 1
 have hb0:Below w0.heap.size w0 (itW w g es.length):=by unfold itW;rw[←hw0];exact(Below.refl _ _).alloc (Nat.le_refl _) _
 have hI0:ItB (itW w g es.length) w.heap.size g es.length 0:=by unfold itW;rw[←hw0,←hz];exact blk_new w0 _
 have hmid0:MidR w0 w.heap.size (itW w g es.length).heap.size g es.length 0 ((itW w g es.length).alloc (.cells #[.nilIface] 57)):=by
  have hb:=(Below.refl (itW w g es.length).heap.size (itW w g es.length)).alloc (Nat.le_refl _) (.cells #[.nilIface] 57)
  exact⟨hb0.trans (hb.mono hb0.size),blk_below hI0 hb,_,blk_new _ _⟩
 have hlm:(es.map (·.k)).length=es.length:=by simp
 have hifm: ∀u∈es.map (·.k),∃T x,u= .iface T x:=by
  intro u hu
  obtain⟨e,he,rfl⟩:=List.mem_map.1 hu
  obtain⟨i,hi,rfl⟩:=List.mem_iff_getElem.1 he
  exact hif i hi
 refine goneS_c (es.map (·.k)) w.heap.size (itW w g es.length) (MidR w0 w.heap.size (itW w g es.length).heap.size g es.length) (fun W=>Below w.heap.size w W) ⟨?_,?_,?_,?_,?_⟩ hmid0 hifm (by omega)
 ·intro j wr hm
  obtain⟨u,hu⟩:=hm.xb
  exact lt_blk hu
 ·intro j hj wr hm
  rw[hlm] at hj
  obtain⟨u,hu⟩:=hm.xb
  refine(next_c w.heap.size _ g T tab es 1 j u wr hm.it (h0.below hm.low) hk hj hu (by omega) (by omega) (hif j hj)).mono ?_
  rintro e w' ⟨rfl,hs⟩
  refine⟨rfl,⟨hs.low w0 (by omega) (by omega) hm.low,hs.it,_,hs.xb⟩,?_,fun k hk=>hs.far k (by omega) (by omega)⟩
  rw[List.getElem_map]
  exact blk_cell hs.xb 0 _ rfl
 ·intro wr hm
  rw[hlm] at hm⊢
  refine(nextEnd_c w.heap.size _ g es.length wr hm.it).mono ?_
  rintro e w' ⟨rfl,rfl⟩
  exact⟨rfl,hm,fun k _ _=>rfl⟩
 ·intro j wr w2 hm hb
  obtain⟨u,hu⟩:=hm.xb
  exact⟨hm.low.trans (hb.mono (by omega)),(hb.block _ (by omega)).trans hm.it,u,(hb.block _ (by omega)).trans hu⟩
 ·intro wr hm
  have ht:HTab wr g T tab es 1:=h0.below hm.low
  refine(keyDone_c w.heap.size g _ _ T tab es wr hm.it ht).mono ?_
  rintro e w' ⟨rfl,rfl⟩
  refine⟨rfl,Below.itBack h hgl ?_,fun k hk=>heap_far wr ⟨g,43,none⟩ _ k (show k≠g by omega)⟩
  have:=hm.low
  rw[hz,hw0] at this
  exact this
end Go.Proofs.YtkplnbjgkhmbcaaGreatDoor
