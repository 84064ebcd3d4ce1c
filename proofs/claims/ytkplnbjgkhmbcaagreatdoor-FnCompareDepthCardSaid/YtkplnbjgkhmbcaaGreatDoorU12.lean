/- SpecSame SpecEq SpecFind SpecSameL SpecWith SpecMeth LawOf LawList LawRem ValOpen -/
import Derived.Test.YtkplnbjgkhmbcaaGreatDoorU03
import Derived.Test.YtkplnbjgkhmbcaaGreatDoorU09
import Derived.Test.YtkplnbjgkhmbcaaGreatDoorU10
import Derived.Test.YtkplnbjgkhmbcaaGreatDoorU11
import Derived.LoopTactic
import Derived.Deep.RegionHeld3
import Derived.Maps.AppendAt
import Derived.OwnWalk
import Derived.Deep.Slices
import Derived.ChangeSame
import Derived.ChangeSlices
import Derived.OpenShut
namespace Go.Proofs.YtkplnbjgkhmbcaaGreatDoor
open Go.RowKit Go.Shelf Go.Proofs.YtkplnbjgkhmbcaaGreatDoorW.PrintWords Go.Proofs.YtkplnbjgkhmbcaaGreatDoorW.PrintLast Go.Proofs.YtkplnbjgkhmbcaaGreatDoorW.PrintMore Go.Proofs.YtkplnbjgkhmbcaaGreatDoor.PFnCompare Go.Proofs.YtkplnbjgkhmbcaaGreatDoor.PCmp Go.Proofs.YtkplnbjgkhmbcaaGreatDoor.PbytesOf
set_option linter.unusedVariables false
set_option linter.unusedSimpArgs false
structure TB (w0:World) (cs ds:Array Value) (w:World):Prop where
 b1:w.heap[w0.heap.size]?=some (.cells cs 26 (0,0))
 b2:w.heap[w0.heap.size+1]?=some (.cells ds 26 (0,0))
 low:Below w0.heap.size w0 w
theorem TB.below {w0 w w':World} {cs ds:Array Value} (h:TB w0 cs ds w) (hb:Below w.heap.size w w'):TB w0 cs ds w':=⟨blk_below h.b1 hb,blk_below h.b2 hb,h.low.trans (hb.mono h.low.size)⟩
theorem tb_start (w:World) (cs ds:Array Value):TB w cs ds ((w.alloc (.cells cs 26)).alloc (.cells ds 26)):=
 ⟨blk_alloc (blk_new _ _) _,by simpa using blk_new (w.alloc (.cells cs 26)) (.cells ds 26),((Below.refl _ _).alloc (Nat.le_refl _) _).alloc (by simp) _⟩
theorem cmpB_zero: ∀(a b:List UInt8),(Lib.compareBytes a b==0)=(a==b)
  |[],[]=>rfl
  |[],_::_=>rfl
  |_::_,[]=>rfl
  |a::p,b::q=>by
    unfold Lib.compareBytes
    by_cases h1:a<b
    · have:a≠b:=fun e=>by subst e;exact absurd h1 (by simp)
      rw[if_pos h1];simp[this]
    · by_cases h2:b<a
      · have:a≠b:=fun e=>by subst e;exact absurd h2 (by simp)
        rw[if_neg h1,if_pos h2];simp[this]
      · have:a=b:=by
          apply UInt8.toNat_inj.1
          have h1': ¬a.toNat<b.toNat:=h1
          have h2': ¬b.toNat<a.toNat:=h2
          omega
        subst this
        rw[if_neg h1,if_neg h2,cmpB_zero p q];simp
theorem eqS_bytes (a b:ByteArray):eqS (.bytes a) (.bytes b)=(a==b):=by
 show(Lib.compareBytes a.data.toList b.data.toList==0)=_
 rw[cmpB_zero]
 have h1:(a==b)=(a.data==b.data):=rfl
 rw[h1]
 simp
theorem beqL (a b:ByteArray):(a.toList==b.toList)=(a==b):=by
 rw[Lib.toList_data,Lib.toList_data]
 have h1:(a==b)=(a.data==b.data):=rfl
 rw[h1]
 simp
theorem vm_shape {B:Nat} {w:World} {u:Value} {y:VT} (h:VM B w u y): ∃A2 c2 A5 c5,u= .agg #[.int .i64 y.f0, .bool y.f1, .slice A2 y.f2.length c2, .int .u64 y.f3, .string y.f4, .slice A5 y.f5.length c5]∧kV.M w B (fun _=>True) y [.int .i64 y.f0, .bool y.f1, .slice A2 y.f2.length c2, .int .u64 y.f3, .string y.f4, .slice A5 y.f5.length c5]:=by
 obtain⟨cs,rfl,hM⟩:=h
 obtain⟨v2,v5,rfl,g2,g5⟩:=k26_openM hM
 obtain⟨A2,c2,rfl⟩:=Kd.R_slice g2
 obtain⟨A5,c5,rfl⟩:=Kd.R_slice g5
 exact⟨A2,c2,A5,c5,rfl,hM⟩
end Go.Proofs.YtkplnbjgkhmbcaaGreatDoor
namespace Go.Proofs.YtkplnbjgkhmbcaaGreatDoor
open Go.RowKit Go.Shelf Go.ChangeShapes Go.WideShapes Go.Deep Go.Proofs.YtkplnbjgkhmbcaaGreatDoorW.PrintWords Go.Proofs.YtkplnbjgkhmbcaaGreatDoorW.PrintLast Go.Proofs.YtkplnbjgkhmbcaaGreatDoorW.PrintMore Go.Proofs.YtkplnbjgkhmbcaaGreatDoor.PFnCompare Go.Proofs.YtkplnbjgkhmbcaaGreatDoor.PCmp Go.Proofs.YtkplnbjgkhmbcaaGreatDoor.PbytesOf
set_option linter.unusedVariables false
set_option linter.unusedSimpArgs false
section
variable {H:Type} {enc:TypeId×Value→H} {W:World}
theorem bytes_open {fuel:Nat} {v:Value} {y:DataW H×List MemPlace} (h:DataW.trod enc Tryz.prog W 0 (fun _=>true) true fuel 22 [v]=some y): ∃A c l,v= .slice A l.length c∧l.length≤c∧(Kd.int .u8).C W A l.length l∧Bytes l:=by
  have hc1:Tryz.prog.cellsOf 5=1:=by kernel_rfl
  rcases open_ints Tryz.underlying22 Tryz.underlying5 hc1 h with⟨hcs,_⟩|⟨ad,len,cap,zs,hcs,_,hle,hmax,hall,_,hcell,hwf⟩
  · simp only[List.cons.injEq,and_true] at hcs
    exact⟨none,0,[],hcs,Nat.le_refl _,c_nil,fun x hx=>by cases hx⟩
  · simp only[List.cons.injEq,and_true] at hcs
    simp only[if_true] at hall
    unfold maxLen at hmax
    have hlen:(zs.take len).length=len:=by rw[List.length_take];omega
    refine⟨some ad,cap,zs.take len,by rw[hlen];exact hcs,by omega,⟨rfl,by omega,fun hp=>⟨ad,rfl,fun j p hj=>⟨[.int .u8 p],rfl,rfl,fun i u hu=>?_⟩⟩⟩,fun x hx=>?_⟩
    · have hi:i=0:=by
        rcases i with _|i
        ·rfl
        ·simp at hu
      subst hi
      simp only[List.getElem?_cons_zero,Option.some.injEq] at hu
      subst hu
      obtain⟨hj1,hj2⟩:=List.getElem?_eq_some_iff.1 hj
      have hj3:j<zs.length:=by rw[hlen] at hj1;omega
      have:=hcell j hj3
      rw[List.getD_eq_getElem?_getD,List.getElem?_eq_getElem hj3] at this
      rw[List.getElem_take] at hj2
      rw[show j*(Kd.int IntKind.u8).sz+0=j from(by show j*1+0=j;omega),this,←hj2]
      rfl
    · have:=hwf x (List.mem_of_mem_take hx)
      have h0:IntKind.u8.min=0:=by decide
      have h1:IntKind.u8.max=255:=by decide
      simp[Lit.wf,h0,h1] at this
      omega
set_option maxRecDepth 100000 in
theorem val_open {fuel:Nat} {cs:List Value} {y:DataW H×List MemPlace} (h:DataW.trod enc Tryz.prog W 0 (fun _=>true) true fuel 26 cs=some y):
 ∃(x:VT) (A2 A5:Option Addr) (c2 n5 c5:Nat),cs=[.int .i64 x.f0, .bool x.f1, .slice A2 x.f2.length c2, .int .u64 x.f3, .string x.f4, .slice A5 n5 c5]∧x.f2.length≤c2∧(Kd.int .u8).C W A2 x.f2.length x.f2∧Raw x:=by
 obtain⟨ys,n,_,_,hl,hyl,hf⟩:=DataW.trod_struct Tryz.underlying26 h
 have h6:Tryz.prog.cellsOf 26=6:=by kernel_rfl
 rw[h6] at hl
 match cs,hl with
 |[v0,v1,v2,v3,v4,v5],_=>
  match ys,hyl with
  |[y0,y1,y2,y3,y4,y5],_=>
   have e3:Tryz.prog.cellsOf 3=1:=by kernel_rfl
   have e4:Tryz.prog.cellsOf 4=1:=by kernel_rfl
   have e22:Tryz.prog.cellsOf 22=1:=by kernel_rfl
   have e23:Tryz.prog.cellsOf 23=1:=by kernel_rfl
   have e9:Tryz.prog.cellsOf 9=1:=by kernel_rfl
   have e24:Tryz.prog.cellsOf 24=1:=by kernel_rfl
   have f0:DataW.trod enc Tryz.prog W 0 (fun _=>true) true n 3 [v0]=some y0:=by simpa [e3] using hf 0 _ rfl
   have f1:DataW.trod enc Tryz.prog W 0 (fun _=>true) true n 4 [v1]=some y1:=by simpa [e4] using hf 1 _ rfl
   have f2:DataW.trod enc Tryz.prog W 0 (fun _=>true) true n 22 [v2]=some y2:=by simpa [e22] using hf 2 _ rfl
   have f3:DataW.trod enc Tryz.prog W 0 (fun _=>true) true n 23 [v3]=some y3:=by simpa [e23] using hf 3 _ rfl
   have f4:DataW.trod enc Tryz.prog W 0 (fun _=>true) true n 9 [v4]=some y4:=by simpa [e9] using hf 4 _ rfl
   have f5:DataW.trod enc Tryz.prog W 0 (fun _=>true) true n 24 [v5]=some y5:=by simpa [e24] using hf 5 _ rfl
   obtain⟨k,hk,_⟩:=DataW.trod_int Tryz.underlying3 f0
   obtain⟨b,hb,_⟩:=DataW.trod_bool Tryz.underlying4 f1
   obtain⟨A2,c2,l,rfl,hl2,hC,hB⟩:=bytes_open f2
   obtain⟨u,hu,_,huw⟩:=DataW.trod_int Tryz.underlying23 f3
   obtain⟨t,ht,_⟩:=DataW.trod_string Tryz.underlying9 f4
   have h5: ∃A5 n5 c5,v5= .slice A5 n5 c5:=by
    rcases open_slice Tryz.underlying24 f5 with⟨hcs,_⟩|⟨a,len,cap,m,n,D,Pl,hcs,_⟩
    ·simp only[List.cons.injEq,and_true] at hcs;exact⟨_,_,_,hcs⟩
    ·simp only[List.cons.injEq,and_true] at hcs;exact⟨_,_,_,hcs⟩
   obtain⟨A5,n5,c5,rfl⟩:=h5
   simp only[List.cons.injEq,and_true] at hk hb hu ht
   subst hk hb hu ht
   have hub:=bounds_u64 huw
   exact⟨⟨k,b,l,u,t,[]⟩,A2,A5,c2,n5,c5,rfl,hl2,hC,⟨⟨hub.1,by show u<_;omega⟩,hB⟩⟩
end
end Go.Proofs.YtkplnbjgkhmbcaaGreatDoor
