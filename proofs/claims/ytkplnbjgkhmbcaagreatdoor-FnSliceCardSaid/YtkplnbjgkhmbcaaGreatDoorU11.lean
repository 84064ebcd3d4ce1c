/- SpecClean -/
import Derived.Test.YtkplnbjgkhmbcaaGreatDoorU03
import Derived.Test.YtkplnbjgkhmbcaaGreatDoorU09
import Derived.Test.YtkplnbjgkhmbcaaGreatDoorU10
import Derived.Deep.RegionHeld3
namespace Go.Proofs.YtkplnbjgkhmbcaaGreatDoor
open Go.RowKit Go.Shelf Go.Proofs.YtkplnbjgkhmbcaaGreatDoorW.PrintWords Go.Proofs.YtkplnbjgkhmbcaaGreatDoorW.PrintLast Go.Proofs.YtkplnbjgkhmbcaaGreatDoorW.PrintMore Go.Proofs.YtkplnbjgkhmbcaaGreatDoor.PFnCompare Go.Proofs.YtkplnbjgkhmbcaaGreatDoor.PCmp Go.Proofs.YtkplnbjgkhmbcaaGreatDoor.PbytesOf
set_option linter.unusedVariables false
set_option linter.unusedSimpArgs false
structure Raw (x:VT):Prop where
 bits:0≤x.f3∧x.f3<18446744073709551616
 mag:Bytes x.f2
def RR (w:World) (v:Value) (x:VT):Prop:= ∃A2 c2 A5 n5 c5,v= .agg #[.int .i64 x.f0, .bool x.f1, .slice A2 x.f2.length c2, .int .u64 x.f3, .string x.f4, .slice A5 n5 c5]∧x.f2.length≤c2∧(Kd.int .u8).C w A2 x.f2.length x.f2
theorem RR.below {w w':World} {v:Value} {x:VT} (h:RR w v x) (hb:Below w.heap.size w w'):RR w' v x:=by
 obtain⟨A2,c2,A5,n5,c5,e,h1,h2⟩:=h
 exact⟨A2,c2,A5,n5,c5,e,h1,Kd.C_below h2 hb⟩
def CleanR (w:World) (e:Ending) (w':World):Prop:= ∃u s y,e= .returned u∧VM w.heap.size w' u y∧Canon s y∧s.fit∧Below w.heap.size w w'
theorem vm_flat (B:Nat) (w:World) (k b:Int) (t:ByteArray):VM B w (.agg #[.int .i64 k, .bool false, .slice none 0 0, .int .u64 b, .string t, .slice none 0 0]) ⟨k,false,[],b,t,[]⟩:=
 ⟨_,rfl,k26_mkM w B _ ⟨k,false,[],b,t,[]⟩ (Kd.R_nil _ _ _ _ _) (Kd.R_nil _ _ _ _ _)⟩
attribute [local go_sem] max2_int min2_int max_two min_two max_three min_three max_four min_four
set_option maxRecDepth 100000 in
theorem boolVal_c (b:Bool) (w:World):Calls Tryz.prog 22 #[.bool b] w fun e w'=>e= .returned (.agg #[.int .i64 1, .bool false, .slice none 0 0, .int .u64 (if b then 1 else 0), .string ⟨#[]⟩, .slice none 0 0])∧Below w.heap.size w w':=by
 cases b
 ·go_enter Tryz.func22,Tryz.ntmps22
  go_wp2
  exact bodyPost_ret (v:= .agg #[.int .i64 1, .bool false, .slice none 0 0, .int .u64 0, .string ⟨#[]⟩, .slice none 0 0]) (by simp[results,Tryz.results22,go_sem]) rfl ⟨rfl,(Below.refl _ w).alloc (Nat.le_refl _) _⟩
 ·go_enter Tryz.func22,Tryz.ntmps22
  go_wp2
  exact bodyPost_ret (v:= .agg #[.int .i64 1, .bool false, .slice none 0 0, .int .u64 1, .string ⟨#[]⟩, .slice none 0 0]) (by simp[results,Tryz.results22,go_sem]) rfl ⟨rfl,(Below.refl _ w).alloc (Nat.le_refl _) _⟩
theorem sl_take {k:IntKind} {B:Nat} {w:World} {A:Option Addr} {c:Nat} {l:List Int} (h:Sl k B w (.slice A l.length c) l) (m:Nat):Sl k B w (.slice A (l.take m).length c) (l.take m):=by
 obtain⟨A',c',e,h1,h2,h3⟩:=h
 simp only[Value.slice.injEq] at e
 obtain⟨rfl,_,rfl⟩:=e
 have hl:(l.take m).length≤l.length:=by rw[List.length_take];omega
 refine⟨A,c,rfl,by omega,by omega,fun hne=>?_⟩
 have hne2:l≠[]:=by rintro rfl;simp at hne
 obtain⟨b,o,rfl,hB,hlt,hc⟩:=h3 hne2
 refine⟨b,o,rfl,hB,hlt,fun j hj=>?_⟩
 rw[List.getElem_take]
 exact hc j (by omega)
theorem intVal_c (n:Bool) (A:Option Addr) (c:Nat) (l:List Int) (w:World) (h:Sl .u8 0 w (.slice A l.length c) l) (hn:l.length<140737488355328):Calls Tryz.prog 23 #[.agg #[.bool n, .slice A l.length c]] w fun e w'=> ∃A3 c3 A5 c5,e= .returned (.agg #[.int .i64 2, .bool n, .slice A3 l.length c3, .int .u64 0, .string ⟨#[]⟩, .slice A5 0 c5])∧kV.M w' w.heap.size (fun k=>w.heap.size≤k) ⟨2,n,l,0,⟨#[]⟩,[]⟩ [.int .i64 2, .bool n, .slice A3 l.length c3, .int .u64 0, .string ⟨#[]⟩, .slice A5 0 c5]∧Below w.heap.size w w':=by
 obtain⟨A',c',e,h1,hC⟩:=h.c
 simp only[Value.slice.injEq] at e
 obtain⟨rfl,_,rfl⟩:=e
 refine(spec_IntVal.calls n A c l 2 n l 0 ⟨#[]⟩ [] w hC h1 (by simp[spec_IntVal.f];omega)).mono ?_
 rintro e w' ⟨v2,v5,rfl,h2,h5,hb⟩
 obtain⟨A3,c3,rfl⟩:=Kd.R_slice h2
 obtain⟨A5,c5,rfl⟩:=Kd.R_slice h5
 exact⟨A3,c3,A5,c5,rfl,Kd.M_mono _ (fun k hk=>hk.2.1) (Kd.M_bound _ (k26_mkM w' w.heap.size (fun _=>True) ⟨2,n,l,0,⟨#[]⟩,[]⟩ h2 (Kd.R_mono h5 (fun _ _=>trivial)))),hb⟩
theorem far6 (g o:Nat) (w:World) (a b c d e f:Value):((((((w.setCell ⟨g+1,0,none⟩ a).setCell ⟨g+1,1,none⟩ b).setCell ⟨g+1,2,none⟩ c).setCell ⟨g+1,3,none⟩ d).setCell ⟨g+1,4,none⟩ e).setCell ⟨g+1,5,none⟩ f).cell? ⟨g,o,none⟩=w.cell? ⟨g,o,none⟩:=by
 have h: ∀(W:World) j v,(W.setCell ⟨g+1,j,none⟩ v).cell? ⟨g,o,none⟩=W.cell? ⟨g,o,none⟩:=fun W j v=>cell_setCell_ne W ⟨g+1,j,none⟩ ⟨g,o,none⟩ v (Or.inl (by show g+1≠g;omega))
 rw[h,h,h,h,h,h]
set_option maxRecDepth 100000 in
set_option maxHeartbeats 1000000 in
theorem cleanInt_c (x:VT) (v:Value) (w:World) (h:RR w v x) (hr:Raw x) (hk:(wrap64 (x.f0.tmod 10+10)).tmod 10=2∨(wrap64 (x.f0.tmod 10+10)).tmod 10=8):Calls Tryz.prog 9 #[v, .int .i64 0] w (CleanR w):=by
 obtain⟨A2,c2,A5,n5,c5,rfl,l2,g2⟩:=h
 have hsl0:=c_sl g2 l2
 have HT:=Lib.hid (sl_take hsl0 40)
 have hlen:(x.f2.take 40).length≤40:=by rw[List.length_take];omega
 obtain⟨i5,hi5,hz5⟩:=Option.map_eq_some_iff.1 byteInfo
 simp only[Prod.mk.injEq] at hz5
 obtain⟨_,hs5,_⟩:=hz5
 have hsl:=fun W=>(print_take_int (P:=Tryz.prog) (k:= .u8) 22 5 Tryz.underlying22 hi5 hs5 A2 c2 x.f2 (mn x.f2.length 40) (by unfold mn;split<;>omega) (by unfold mn;split<;>omega) l2).1 W
 have e1:(x.f2.take (mn x.f2.length 40).toNat)=x.f2.take 40:=by
  unfold mn
  split
  ·rfl
  ·rw[Int.toNat_natCast,List.take_length,List.take_of_length_le (by omega)]
 rw[e1] at hsl
 have HBy:Hid (Bytes (x.f2.take 40)):=Lib.hid fun z hz=>hr.mag z (List.mem_of_mem_take hz)
 clear g2 l2 hi5 hs5 hsl0 hr
 obtain⟨m2,hm2⟩: ∃m2,m2=x.f2.take 40:=⟨_,rfl⟩
 rw[←hm2] at hsl HT hlen HBy
 clear hm2 e1
 unfold mn at hsl
 obtain⟨n,HN⟩: ∃n,Hid (n=(x.f1&&decide (0<(cutL m2).length))):=⟨_,rfl⟩
 have HO:Hid (∀w',Below w.heap.size w w'→Calls Tryz.prog 24 #[.bool x.f1, .slice A2 m2.length c2] w' fun e w''=> ∃A1 c1,e= .returned (.agg #[.bool n, .slice A1 (cutL m2).length c1])∧Sl .u8 w'.heap.size w'' (.slice A1 (cutL m2).length c1) (cutL m2)∧Below w'.heap.size w' w''):=by
  intro w' hb
  refine(of_c x.f1 _ _ _ _ (HT.out.below hb) (by omega)).mono ?_
  rintro e w1 ⟨v1,rfl,⟨s1,rfl,hs1⟩,hb1⟩
  obtain⟨A1,c1,rfl,_⟩:=hs1.c
  exact⟨A1,c1,by rw[HN.out],hs1,hb1⟩
 have HGd:Hid (Good n (cutL m2)):=by rw[HN.out];exact Lib.hid (good_of x.f1 m2 HBy.out (by omega))
 have hcl:=cutL_length m2
 obtain⟨l3,HL3⟩: ∃l3,Hid (l3=cutL m2):=⟨_,rfl⟩
 rw[←HL3.out] at HO hcl HGd
 have HI:Hid (∀W A1 c1,Sl .u8 0 W (.slice A1 l3.length c1) l3→Calls Tryz.prog 23 #[.agg #[.bool n, .slice A1 l3.length c1]] W fun e w'=> ∃A3 c3 A5 c5,e= .returned (.agg #[.int .i64 2, .bool n, .slice A3 l3.length c3, .int .u64 0, .string ⟨#[]⟩, .slice A5 0 c5])∧kV.M w' W.heap.size (fun k=>W.heap.size≤k) ⟨2,n,l3,0,⟨#[]⟩,[]⟩ [.int .i64 2, .bool n, .slice A3 l3.length c3, .int .u64 0, .string ⟨#[]⟩, .slice A5 0 c5]∧Below W.heap.size W w'):=Lib.hid fun W A1 c1 h=>intVal_c n A1 c1 l3 W h (by omega)
 obtain⟨W0,hW0⟩: ∃W,W=(w.alloc (.cells #[.int .i64 x.f0, .bool x.f1, .slice A2 x.f2.length c2, .int .u64 x.f3, .string x.f4, .slice A5 n5 c5] 26)).alloc (.cells #[.int .i64 0, .bool false, .slice none 0 0, .int .u64 0, .string ⟨#[]⟩, .slice none 0 0] 26):=⟨_,rfl⟩
 have HB0:Hid (Below w.heap.size w W0):=by rw[hW0];exact Lib.hid (((Below.refl _ w).alloc (Nat.le_refl _) _).alloc (by simp) _)
 have HX0:Hid (W0.heap[w.heap.size]?=some (.cells #[.int .i64 x.f0, .bool x.f1, .slice A2 x.f2.length c2, .int .u64 x.f3, .string x.f4, .slice A5 n5 c5] 26 (0,0))):=by rw[hW0];exact Lib.hid (blk_alloc (blk_new _ _) _)
 have HK0:Hid (W0.heap[w.heap.size+1]?=some (.cells #[.int .i64 0, .bool false, .slice none 0 0, .int .u64 0, .string ⟨#[]⟩, .slice none 0 0] 26 (0,0))):=by rw[hW0];exact Lib.hid (by simpa using blk_new (w.alloc _) _)
 rcases hk with hk|hk
 all_goals
  by_cases hlt:(40:Int)<x.f2.length
  all_goals
   first|rw[if_pos hlt] at hsl|rw[if_neg hlt] at hsl
   go_enter Tryz.func9,Tryz.ntmps9
   go_upto_region 8 with fail
   rw[←hW0]
   clear hW0
   obtain⟨z0,z1,z2,z3,z4,z5⟩:=cells6 HX0.out
   clear z0 z3 z4 z5
   go_region_held3 (fun W=>W.cell? ⟨w.heap.size,1,none⟩=some (.bool x.f1)∧W.cell? ⟨w.heap.size,2,none⟩=some (.slice A2 x.f2.length c2)) (first|(with_reducible exact⟨(far6 w.heap.size 1 _ _ _ _ _ _ _).trans q1,(far6 w.heap.size 2 _ _ _ _ _ _ _).trans q2⟩)|(with_reducible exact⟨q1,q2⟩)|(with_reducible exact⟨y1,y2⟩)|(with_reducible exact⟨z1,z2⟩)|exact⟨z1,z2⟩) (first
    |(go_at_call 24;(with_reducible refine(HO.out _ (by first|(with_reducible exact HB0.out)|(with_reducible exact HB0.out.drew))).mono ?_);rintro e w1 ⟨A1,c1,rfl,hs1,hb1⟩;have HS1:=Lib.hid hs1;have HB1:=Lib.hid hb1;have y1:=(hb1.cell (p:=⟨w.heap.size,1,none⟩) (lt_blk HX0.out)).trans z1;have y2:=(hb1.cell (p:=⟨w.heap.size,2,none⟩) (lt_blk HX0.out)).trans z2;clear hs1 hb1)
    |(go_at_call 23;(with_reducible refine(HI.out _ _ _ (HS1.out.mono (Nat.zero_le _))).mono ?_);rintro e w2 ⟨A3,c3,A6,c6,rfl,hM,hb2⟩;have HM:=Lib.hid hM;have HB2:=Lib.hid hb2;have q1:=(hb2.cell (p:=⟨w.heap.size,1,none⟩) (Nat.lt_of_lt_of_le (lt_blk HX0.out) HB1.out.size)).trans y1;have q2:=(hb2.cell (p:=⟨w.heap.size,2,none⟩) (Nat.lt_of_lt_of_le (lt_blk HX0.out) HB1.out.size)).trans y2;obtain⟨x0,x1,x2,x3,x4,x5⟩:=cells6 (blk_below ((HB1.out.block _ (lt_blk HK0.out)).trans HK0.out) hb2);have hfz:=fun o=>blk_free (blk_below ((HB1.out.block _ (lt_blk HK0.out)).trans HK0.out) hb2) o;clear hM hb2))
 all_goals go_wp2
 all_goals refine bodyPost_ret (v:= .agg #[.int .i64 2, .bool n, .slice A3 l3.length c3, .int .u64 0, .string ⟨#[]⟩, .slice A6 0 c6]) (by simp[results,Tryz.results9,go_sem,x0,x1,x2,x3,x4,x5]) rfl ?_
 all_goals
  have h01:=lt_blk HK0.out
  have h02:=HB0.out.size
  have h12:W0.heap.size≤w1.heap.size:=HB1.out.size
  have hne: ∀k,w1.heap.size≤k→k≠w.heap.size+1:=fun k hk=>by omega
  have hle:w.heap.size≤w.heap.size+1:=Nat.le_succ _
  have hb1:Below w.heap.size w w1:=by first|exact HB0.out.trans (HB1.out.mono h02)|exact HB0.out.drew.trans (HB1.out.mono h02)
  refine⟨_, .int (val n l3),⟨2,n,l3,0,⟨#[]⟩,[]⟩,rfl,⟨_,rfl,?_⟩,canon_num_of HGd.out rfl (by omega),?_,?_⟩
  ·exact Kd.M_mono _ (fun _ _=>trivial) (Kd.M_lower _ (by omega) (Kd.M_far (p:=⟨w.heap.size+1,5,none⟩) (Kd.M_far (p:=⟨w.heap.size+1,4,none⟩) (Kd.M_far (p:=⟨w.heap.size+1,3,none⟩) (Kd.M_far (p:=⟨w.heap.size+1,2,none⟩) (Kd.M_far (p:=⟨w.heap.size+1,1,none⟩) (Kd.M_far (p:=⟨w.heap.size+1,0,none⟩) HM.out hne _) hne _) hne _) hne _) hne _) hne _))
  ·show(val n l3).natAbs<256^60
   have hbd:=beN_bd l3 HGd.out.bytes
   have hp:=pow_le_pow l3.length 60 (by omega)
   have e60:((256^60:Nat):Int)=256^60:=by simp
   unfold val
   cases n<;>simp<;>omega
  ·exact(((((((hb1.trans (HB2.out.mono hb1.size)).setCell (p:=⟨w.heap.size+1,0,none⟩) hle _).setCell (p:=⟨w.heap.size+1,1,none⟩) hle _).setCell (p:=⟨w.heap.size+1,2,none⟩) hle _).setCell (p:=⟨w.heap.size+1,3,none⟩) hle _).setCell (p:=⟨w.heap.size+1,4,none⟩) hle _).setCell (p:=⟨w.heap.size+1,5,none⟩) hle _)
theorem below6 {w W w1:World} (h0:Below w.heap.size w W) (h1:Below W.heap.size W w1) (a b c d e f:Value):Below w.heap.size w ((((((w1.setCell ⟨w.heap.size+1,0,none⟩ a).setCell ⟨w.heap.size+1,1,none⟩ b).setCell ⟨w.heap.size+1,2,none⟩ c).setCell ⟨w.heap.size+1,3,none⟩ d).setCell ⟨w.heap.size+1,4,none⟩ e).setCell ⟨w.heap.size+1,5,none⟩ f):=
 have hle:w.heap.size≤w.heap.size+1:=Nat.le_succ _
 ((((((((h0.trans (h1.mono h0.size)).setCell (p:=⟨w.heap.size+1,0,none⟩) hle _).setCell (p:=⟨w.heap.size+1,1,none⟩) hle _).setCell (p:=⟨w.heap.size+1,2,none⟩) hle _).setCell (p:=⟨w.heap.size+1,3,none⟩) hle _).setCell (p:=⟨w.heap.size+1,4,none⟩) hle _).setCell (p:=⟨w.heap.size+1,5,none⟩) hle _))
set_option maxRecDepth 100000 in
theorem clean_c (x:VT) (v:Value) (w:World) (h:RR w v x) (hr:Raw x):Calls Tryz.prog 9 #[v, .int .i64 0] w (CleanR w):=by
 obtain⟨k,hk⟩: ∃k,(wrap64 (x.f0.tmod 10+10)).tmod 10=k:=⟨_,rfl⟩
 have hk9:k=0∨k=1∨k=2∨k=3∨k=4∨k=5∨k=6∨k=7∨k=8∨k=9:=by
  have a1:=Int.tmod_lt_of_pos x.f0 (show(0:Int)<10 by omega)
  have a2:=Int.lt_tmod_of_pos x.f0 (show(0:Int)<10 by omega)
  rw[wrap_in _ (by omega) (by omega),Int.tmod_eq_emod_of_nonneg (by omega)] at hk
  omega
 by_cases h28:k=2∨k=8
 ·exact cleanInt_c x v w h hr (by rcases h28 with rfl|rfl;exact Or.inl hk;exact Or.inr hk)
 obtain⟨A2,c2,A5,n5,c5,rfl,l2,g2⟩:=h
 have HR:=Lib.hid hr
 have HB0:Hid (Below w.heap.size w ((w.alloc (.cells #[.int .i64 x.f0, .bool x.f1, .slice A2 x.f2.length c2, .int .u64 x.f3, .string x.f4, .slice A5 n5 c5] 26)).alloc (.cells #[.int .i64 0, .bool false, .slice none 0 0, .int .u64 0, .string ⟨#[]⟩, .slice none 0 0] 26))):=Lib.hid (((Below.refl _ w).alloc (Nat.le_refl _) _).alloc (by simp) _)
 have HK0:Hid (((w.alloc (.cells #[.int .i64 x.f0, .bool x.f1, .slice A2 x.f2.length c2, .int .u64 x.f3, .string x.f4, .slice A5 n5 c5] 26)).alloc (.cells #[.int .i64 0, .bool false, .slice none 0 0, .int .u64 0, .string ⟨#[]⟩, .slice none 0 0] 26)).heap[w.heap.size+1]?=some (.cells #[.int .i64 0, .bool false, .slice none 0 0, .int .u64 0, .string ⟨#[]⟩, .slice none 0 0] 26 (0,0))):=Lib.hid (by simpa using blk_new (w.alloc _) _)
 clear l2 g2 hr
 go_enter Tryz.func9,Tryz.ntmps9
 go_upto_region 2 with fail
 clear hk
 rcases hk9 with rfl|rfl|rfl|rfl|rfl|rfl|rfl|rfl|rfl|rfl
 ·go_wp2
  refine bodyPost_ret (v:= .agg #[.int .i64 0, .bool false, .slice none 0 0, .int .u64 0, .string ⟨#[]⟩, .slice none 0 0]) (by simp[results,Tryz.results9,go_sem]) rfl ?_
  exact⟨_, .none,⟨0,false,[],0,⟨#[]⟩,[]⟩,rfl,vm_flat _ _ _ _ _,canon_flat ⟨by decide,by decide⟩ (by decide) ⟨by decide,by decide⟩ rfl (fun _ _=>rfl),trivial,((Below.refl _ w).alloc (Nat.le_refl _) _).alloc (by simp) _⟩
 ·go_wp2_with (go_at_call 22;(with_reducible refine(boolVal_c _ _).mono ?_);rintro e w1 ⟨rfl,hb1⟩;have HB1:=Lib.hid hb1;obtain⟨x0,x1,x2,x3,x4,x5⟩:=cells6 (blk_below HK0.out hb1);have hfz:=fun o=>blk_free (blk_below HK0.out hb1) o;clear hb1)
  ·refine bodyPost_ret (v:= .agg #[.int .i64 1, .bool false, .slice none 0 0, .int .u64 1, .string ⟨#[]⟩, .slice none 0 0]) (by simp[results,Tryz.results9,go_sem,x0,x1,x2,x3,x4,x5]) rfl ?_
   exact⟨_, .bool true,⟨1,false,[],1,⟨#[]⟩,[]⟩,rfl,vm_flat _ _ _ _ _,canon_flat ⟨by decide,by decide⟩ (by decide) ⟨by decide,by decide⟩ rfl (fun _ _=>rfl),trivial,below6 HB0.out HB1.out _ _ _ _ _ _⟩
  ·refine bodyPost_ret (v:= .agg #[.int .i64 1, .bool false, .slice none 0 0, .int .u64 0, .string ⟨#[]⟩, .slice none 0 0]) (by simp[results,Tryz.results9,go_sem,x0,x1,x2,x3,x4,x5]) rfl ?_
   exact⟨_, .bool false,⟨1,false,[],0,⟨#[]⟩,[]⟩,rfl,vm_flat _ _ _ _ _,canon_flat ⟨by decide,by decide⟩ (by decide) ⟨by decide,by decide⟩ rfl (fun _ _=>rfl),trivial,below6 HB0.out HB1.out _ _ _ _ _ _⟩
 ·exact absurd (by first|exact Or.inl rfl|exact Or.inr rfl) h28
 ·go_wp2
  refine bodyPost_ret (v:= .agg #[.int .i64 3, .bool false, .slice none 0 0, .int .u64 x.f3, .string ⟨#[]⟩, .slice none 0 0]) (by simp[results,Tryz.results9,go_sem]) rfl ?_
  have hb3:=HR.out.bits
  exact⟨_, .float x.f3.toNat,⟨3,false,[],x.f3,⟨#[]⟩,[]⟩,rfl,vm_flat _ _ _ _ _,canon_flat ⟨by decide,by decide⟩ (by decide) hb3 (by simp[scaOf]) (fun _ _=>rfl),(show x.f3.toNat<18446744073709551616 by omega),((Below.refl _ w).alloc (Nat.le_refl _) _).alloc (by simp) _⟩
 ·go_wp2
  ·refine bodyPost_ret (v:= .agg #[.int .i64 4, .bool false, .slice none 0 0, .int .u64 0, .string (x.f4.extract 0 60), .slice none 0 0]) (by simp[results,Tryz.results9,go_sem]) rfl ?_
   exact⟨_, .str _,⟨4,false,[],0,_,[]⟩,rfl,vm_flat _ _ _ _ _,canon_flat ⟨by decide,by decide⟩ (by decide) ⟨by decide,by decide⟩ rfl (fun h1 h2=>absurd rfl (by first|exact h1|exact h2)),(by show(x.f4.extract 0 60).size≤2147483647;rw[ByteArray.size_extract];omega),((Below.refl _ w).alloc (Nat.le_refl _) _).alloc (by simp) _⟩
  ·refine bodyPost_ret (v:= .agg #[.int .i64 4, .bool false, .slice none 0 0, .int .u64 0, .string x.f4, .slice none 0 0]) (by simp[results,Tryz.results9,go_sem]) rfl ?_
   exact⟨_, .str _,⟨4,false,[],0,_,[]⟩,rfl,vm_flat _ _ _ _ _,canon_flat ⟨by decide,by decide⟩ (by decide) ⟨by decide,by decide⟩ rfl (fun h1 h2=>absurd rfl (by first|exact h1|exact h2)),(by show x.f4.size≤2147483647;omega),((Below.refl _ w).alloc (Nat.le_refl _) _).alloc (by simp) _⟩
 ·go_wp2
  ·refine bodyPost_ret (v:= .agg #[.int .i64 5, .bool false, .slice none 0 0, .int .u64 0, .string (x.f4.extract 0 60), .slice none 0 0]) (by simp[results,Tryz.results9,go_sem]) rfl ?_
   exact⟨_, .bytes _,⟨5,false,[],0,_,[]⟩,rfl,vm_flat _ _ _ _ _,canon_flat ⟨by decide,by decide⟩ (by decide) ⟨by decide,by decide⟩ rfl (fun h1 h2=>absurd rfl (by first|exact h1|exact h2)),(by show(x.f4.extract 0 60).size≤2147483647;rw[ByteArray.size_extract];omega),((Below.refl _ w).alloc (Nat.le_refl _) _).alloc (by simp) _⟩
  ·refine bodyPost_ret (v:= .agg #[.int .i64 5, .bool false, .slice none 0 0, .int .u64 0, .string x.f4, .slice none 0 0]) (by simp[results,Tryz.results9,go_sem]) rfl ?_
   exact⟨_, .bytes _,⟨5,false,[],0,_,[]⟩,rfl,vm_flat _ _ _ _ _,canon_flat ⟨by decide,by decide⟩ (by decide) ⟨by decide,by decide⟩ rfl (fun h1 h2=>absurd rfl (by first|exact h1|exact h2)),(by show x.f4.size≤2147483647;omega),((Below.refl _ w).alloc (Nat.le_refl _) _).alloc (by simp) _⟩
 ·go_wp2
  refine bodyPost_ret (v:= .agg #[.int .i64 0, .bool false, .slice none 0 0, .int .u64 0, .string ⟨#[]⟩, .slice none 0 0]) (by simp[results,Tryz.results9,go_sem]) rfl ?_
  exact⟨_, .none,⟨0,false,[],0,⟨#[]⟩,[]⟩,rfl,vm_flat _ _ _ _ _,canon_flat ⟨by decide,by decide⟩ (by decide) ⟨by decide,by decide⟩ rfl (fun _ _=>rfl),trivial,((Below.refl _ w).alloc (Nat.le_refl _) _).alloc (by simp) _⟩
 ·go_wp2_with (go_at_call 22;(with_reducible refine(boolVal_c _ _).mono ?_);rintro e w1 ⟨rfl,hb1⟩;have HB1:=Lib.hid hb1;obtain⟨x0,x1,x2,x3,x4,x5⟩:=cells6 (blk_below HK0.out hb1);have hfz:=fun o=>blk_free (blk_below HK0.out hb1) o;clear hb1)
  ·refine bodyPost_ret (v:= .agg #[.int .i64 1, .bool false, .slice none 0 0, .int .u64 1, .string ⟨#[]⟩, .slice none 0 0]) (by simp[results,Tryz.results9,go_sem,x0,x1,x2,x3,x4,x5]) rfl ?_
   exact⟨_, .bool true,⟨1,false,[],1,⟨#[]⟩,[]⟩,rfl,vm_flat _ _ _ _ _,canon_flat ⟨by decide,by decide⟩ (by decide) ⟨by decide,by decide⟩ rfl (fun _ _=>rfl),trivial,below6 HB0.out HB1.out _ _ _ _ _ _⟩
  ·refine bodyPost_ret (v:= .agg #[.int .i64 1, .bool false, .slice none 0 0, .int .u64 0, .string ⟨#[]⟩, .slice none 0 0]) (by simp[results,Tryz.results9,go_sem,x0,x1,x2,x3,x4,x5]) rfl ?_
   exact⟨_, .bool false,⟨1,false,[],0,⟨#[]⟩,[]⟩,rfl,vm_flat _ _ _ _ _,canon_flat ⟨by decide,by decide⟩ (by decide) ⟨by decide,by decide⟩ rfl (fun _ _=>rfl),trivial,below6 HB0.out HB1.out _ _ _ _ _ _⟩
 ·exact absurd (by first|exact Or.inl rfl|exact Or.inr rfl) h28
 ·go_wp2
  refine bodyPost_ret (v:= .agg #[.int .i64 3, .bool false, .slice none 0 0, .int .u64 x.f3, .string ⟨#[]⟩, .slice none 0 0]) (by simp[results,Tryz.results9,go_sem]) rfl ?_
  have hb3:=HR.out.bits
  exact⟨_, .float x.f3.toNat,⟨3,false,[],x.f3,⟨#[]⟩,[]⟩,rfl,vm_flat _ _ _ _ _,canon_flat ⟨by decide,by decide⟩ (by decide) hb3 (by simp[scaOf]) (fun _ _=>rfl),(show x.f3.toNat<18446744073709551616 by omega),((Below.refl _ w).alloc (Nat.le_refl _) _).alloc (by simp) _⟩
end Go.Proofs.YtkplnbjgkhmbcaaGreatDoor
