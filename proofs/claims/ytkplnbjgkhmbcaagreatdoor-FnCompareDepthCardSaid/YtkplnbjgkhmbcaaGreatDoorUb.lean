/- What print.sh wrote, of it what this claim uses. -/
import Derived.Test.YtkplnbjgkhmbcaaGreatDoorUa
import Derived.Test.YtkplnbjgkhmbcaaGreatDoorProg
import Derived.Below
import Derived.Deep.Draws
import Derived.Deep.AppendLies
import Derived.Maps.AppendAt
import Derived.OwnWalk
import Derived.Laws.BytesArg
import Derived.Laws.MakeOwn
import Derived.Laws.OwnMore
import Derived.Deep.OwnRows
import Derived.Tactics
import Derived.Lib.ConvBytes
import Derived.Laws.Slices
import Derived.WalkKit
import Derived.KernelRfl
import Derived.RowKit3
import Derived.Deep.LoopGhost
import Derived.Deep.QuietTactic
import Derived.BigQuiet
import Derived.WideLaws
import Derived.Deep.DeepCutAuto
import Derived.Deep.CutBlock
import Derived.Deep.RegionHeld3
import Derived.Laws.Rows
import Derived.Lib.AppendStr
import Derived.ArgAppend
import Derived.Laws.IdiomCopy
import Derived.OrdersHeld
import Derived.Laws.BitsLemmas
import Derived.RowKit
namespace Go.Proofs.YtkplnbjgkhmbcaaGreatDoor.PFnCompare
open Go.RowKit Go.Proofs.YtkplnbjgkhmbcaaGreatDoorW.PrintWords Go.Proofs.YtkplnbjgkhmbcaaGreatDoorW.PrintLast Go.Proofs.YtkplnbjgkhmbcaaGreatDoorW.PrintMore
attribute [local go_sem] max2_int min2_int max_two min_two max_three min_three max_four min_four
set_option linter.unusedVariables false
set_option linter.unusedSimpArgs false
def errW:Option Int→Value
 |none=> .nilIface
 |some c=> .iface 0 (.int .i64 c)
theorem errW_none:errW none= .nilIface:=rfl
theorem errW_some (c:Int):errW (some c)= .iface 0 (.int .i64 c):=rfl
theorem info5:(Tryz.prog.info? 5).map (fun i=>(i.zero,i.size,i.bytes))=some (some (.int .u8 0),1,1):=by kernel_rfl
structure S26 where
 f0:Int
 f1:Bool
 f2:(List Int)
 f3:Int
 f4:ByteArray
 f5:(List S26)
def F26 (d:Kd S26):Kd S26:=Kd.iso (Kd.pair (Kd.int .i64) (Kd.pair Kd.bool (Kd.pair (Kd.slice 5 (Kd.int .u8)) (Kd.pair (Kd.int .u64) (Kd.pair Kd.string (Kd.slice 26 d)))))) (fun x:S26=>(x.f0,x.f1,x.f2,x.f3,x.f4,x.f5))
theorem mono26:Kd.Mono F26:=Kd.mono_iso _ (Kd.mono_pair (Kd.mono_const _) (Kd.mono_pair (Kd.mono_const _) (Kd.mono_pair (Kd.mono_const _) (Kd.mono_pair (Kd.mono_const _) (Kd.mono_pair (Kd.mono_const _) (Kd.mono_slice 26 Kd.mono_id))))))
theorem sub26:Kd.Sub F26 [5,26]:=Kd.sub_iso _ (Kd.sub_pair (Kd.sub_const _ (by decide)) (Kd.sub_pair (Kd.sub_const _ (by decide)) (Kd.sub_pair (Kd.sub_const _ (by decide)) (Kd.sub_pair (Kd.sub_const _ (by decide)) (Kd.sub_pair (Kd.sub_const _ (by decide)) (Kd.sub_slice 26 (by decide) Kd.sub_id))))))
theorem sz26: ∀n,(Kd.upto F26 6 [5,26] n).sz=6:=Kd.upto_sz (fun _=>rfl)
def k26:Kd S26:=Kd.fix F26 6 [5,26] sz26 (Kd.upto_E sub26)
theorem k26_open {w:World} {x:S26} {cs:List Value} (h:k26.K w x cs): ∃A2 c2 A5 c5,cs=[.int .i64 x.f0, .bool x.f1, .slice A2 x.f2.length c2, .int .u64 x.f3, .string x.f4, .slice A5 x.f5.length c5]∧x.f2.length≤c2∧(Kd.int .u8).C w A2 x.f2.length x.f2∧x.f5.length≤c5∧k26.C w A5 x.f5.length x.f5:=by
 obtain⟨n,h⟩:=h
 cases n with
 |zero=>exact h.elim
 |succ n=>
  obtain⟨_,_,rfl,rfl,⟨_,_,rfl,rfl,⟨_,_,rfl,⟨A2,c2,rfl,l2,g2⟩,⟨_,_,rfl,rfl,⟨_,_,rfl,rfl,⟨A5,c5,rfl,l5,g5⟩⟩⟩⟩⟩⟩:=h
  exact⟨A2,c2,A5,c5,rfl,l2,g2,l5,Kd.fix_C g5⟩
theorem k26_openM {w:World} {base:Nat} {ok:Nat→Prop} {x:S26} {cs:List Value} (h:k26.M w base ok x cs): ∃v2 v5,cs=[.int .i64 x.f0, .bool x.f1,v2, .int .u64 x.f3, .string x.f4,v5]∧(Kd.int .u8).R 5 w base ok v2 x.f2∧k26.R 26 w base ok v5 x.f5:=by
 obtain⟨n,h⟩:=h
 cases n with
 |zero=>exact h.elim
 |succ n=>
  obtain⟨_,_,rfl,rfl,⟨_,_,rfl,rfl,⟨_,_,rfl,⟨v2,rfl,g2⟩,⟨_,_,rfl,rfl,⟨_,_,rfl,rfl,⟨v5,rfl,g5⟩⟩⟩⟩⟩⟩:=h
  exact⟨v2,v5,rfl,g2,Kd.fix_R g5⟩
theorem k26_mk (w:World) (x:S26) {A2:Option Addr} {c2:Nat} (l2:x.f2.length≤c2) (g2:(Kd.int .u8).C w A2 x.f2.length x.f2) {A5:Option Addr} {c5:Nat} (l5:x.f5.length≤c5) (g5:k26.C w A5 x.f5.length x.f5):k26.K w x [.int .i64 x.f0, .bool x.f1, .slice A2 x.f2.length c2, .int .u64 x.f3, .string x.f4, .slice A5 x.f5.length c5]:=by
 obtain⟨n5,q5⟩:=Kd.fix_C_back mono26 g5
 have r5:=Kd.upto_C_le mono26 sz26 (show n5≤n5 by omega) q5
 exact⟨n5+1,⟨[.int .i64 x.f0],[.bool x.f1, .slice A2 x.f2.length c2, .int .u64 x.f3, .string x.f4, .slice A5 x.f5.length c5],rfl,rfl,⟨[.bool x.f1],[.slice A2 x.f2.length c2, .int .u64 x.f3, .string x.f4, .slice A5 x.f5.length c5],rfl,rfl,⟨[.slice A2 x.f2.length c2],[.int .u64 x.f3, .string x.f4, .slice A5 x.f5.length c5],rfl,⟨A2,c2,rfl,l2,g2⟩,⟨[.int .u64 x.f3],[.string x.f4, .slice A5 x.f5.length c5],rfl,rfl,⟨[.string x.f4],[.slice A5 x.f5.length c5],rfl,rfl,⟨A5,c5,rfl,l5,r5⟩⟩⟩⟩⟩⟩⟩
theorem k26_mkM (w:World) (base:Nat) (ok:Nat→Prop) (x:S26) {v2:Value} (g2:(Kd.int .u8).R 5 w base ok v2 x.f2) {v5:Value} (g5:k26.R 26 w base ok v5 x.f5):k26.M w base ok x [.int .i64 x.f0, .bool x.f1,v2, .int .u64 x.f3, .string x.f4,v5]:=by
 obtain⟨n5,q5⟩:=Kd.fix_R_back mono26 g5
 have r5:=Kd.upto_R_le mono26 sz26 (show n5≤n5 by omega) q5
 exact⟨n5+1,⟨[.int .i64 x.f0],[.bool x.f1,v2, .int .u64 x.f3, .string x.f4,v5],rfl,rfl,⟨[.bool x.f1],[v2, .int .u64 x.f3, .string x.f4,v5],rfl,rfl,⟨[v2],[.int .u64 x.f3, .string x.f4,v5],rfl,⟨v2,rfl,g2⟩,⟨[.int .u64 x.f3],[.string x.f4,v5],rfl,rfl,⟨[.string x.f4],[v5],rfl,rfl,⟨v5,rfl,r5⟩⟩⟩⟩⟩⟩⟩
end Go.Proofs.YtkplnbjgkhmbcaaGreatDoor.PFnCompare
namespace Go.Proofs.YtkplnbjgkhmbcaaGreatDoor.PFnCompare
open Go.RowKit Go.Proofs.YtkplnbjgkhmbcaaGreatDoorW.PrintWords Go.Proofs.YtkplnbjgkhmbcaaGreatDoorW.PrintLast Go.Proofs.YtkplnbjgkhmbcaaGreatDoorW.PrintMore
attribute [local go_sem] max2_int min2_int max_two min_two max_three min_three max_four min_four
set_option linter.unusedVariables false
set_option linter.unusedSimpArgs false
def spec_BoolVal.f (a0:Bool):Option (Int×Bool×List Int×Int×ByteArray×(List (S26))):=if a0=true then(some (1,false,([]:List Int),1,(⟨#[]⟩:ByteArray),([]:List (S26)))) else(some (1,false,([]:List Int),0,(⟨#[]⟩:ByteArray),([]:List (S26))))
set_option maxHeartbeats 8000000 in
set_option maxRecDepth 100000 in
theorem spec_BoolVal.calls (a0:Bool) (r1:Int) (r2:Bool) (r3:List Int) (r4:Int) (r5:ByteArray) (r6:List (S26)) (w:World) (h:spec_BoolVal.f a0=some (r1,r2,r3,r4,r5,r6)):
 Calls Tryz.prog 22 #[.bool a0] w fun e w'=> ∃v2_ v5_:Value,e= .returned (.agg #[.int .i64 r1, .bool r2,v2_, .int .u64 r4, .string r5,v5_])∧Kd.R (Kd.int .u8) 5 w' w.heap.size (fun _=>True) v2_ r3∧Kd.R k26 26 w' w.heap.size (fun k_=>some k_≠(v2_:Value).ownBlock) v5_ r6∧Below w.heap.size w w':=by
 have hu26:=Tryz.underlying26
 have HB:=Aside0.mk (Below.refl w.heap.size w)
 have H:(if a0=true then(some (1,false,([]:List Int),1,(⟨#[]⟩:ByteArray),([]:List (S26)))) else(some (1,false,([]:List Int),0,(⟨#[]⟩:ByteArray),([]:List (S26)))))=some (r1,r2,r3,r4,r5,r6):=h
 clear h
 by_cases c2:a0=true
 ·subst c2
  have H1:(some (1,false,([]:List Int),1,(⟨#[]⟩:ByteArray),([]:List (S26))))=some (r1,r2,r3,r4,r5,r6):=by rw[if_pos rfl] at H;exact H
  clear H
  have H:=H1
  clear H1
  simp only[Option.some.injEq,Prod.mk.injEq] at H
  obtain⟨rfl,rfl,rfl,rfl,rfl,rfl⟩:=H
  go_enter Tryz.func22,Tryz.ntmps22
  go_wp2_with (first|((with_reducible refine gate_dst (N:=2) rfl ?_);refine box_event ?hg (N:=2) ?hd (cs:=#[.int .i64 0, .bool false, .slice none 0 0, .int .u64 0, .string (⟨#[]⟩:ByteArray), .slice none 0 0]) (t:=26) ?hr ?_;(case hd=>rfl);(case hg=>rfl);(case hr=>first|(go_simp;done)|(go_simp;rfl));intro gb102 hg w3 hbox hb;have n0_:=Aside0.mk (below_step (by repeat(first|(with_reducible first|exact HB.out|apply below_alloc|apply pw_below_drewN|apply below_drew1)|exact HB.out)) hb);have n1_:=Aside0.mk (hbox);have n2_:=Aside0.mk ((by rw[hg];exact(below_size (by repeat(first|(with_reducible first|exact HB.out|apply below_alloc|apply pw_below_drewN|apply below_drew1)|exact HB.out))):w.heap.size≤gb102));have n3_:=Aside0.mk ((by rw[hg];exact(below_size (by repeat(first|(with_reducible first|exact HB.out|apply below_alloc|apply pw_below_drewN|apply below_drew1)|exact HB.out))):w.heap.size≤gb102));clear HB;have HB:=n0_;have BK102:=n1_;have GW102:=n2_;have GE102:=n3_;clear n0_ n1_ n2_ n3_;clear hb hbox hg;have hcz4_0:w3.cell? ⟨gb102,0,none⟩=some (.int .i64 0):=(blk_cell BK102.out 0).trans rfl;have hcz4_1:w3.cell? ⟨gb102,1,none⟩=some (.bool false):=(blk_cell BK102.out 1).trans rfl;have hcz4_2:w3.cell? ⟨gb102,2,none⟩=some (.slice none 0 0):=(blk_cell BK102.out 2).trans rfl;have hcz4_3:w3.cell? ⟨gb102,3,none⟩=some (.int .u64 0):=(blk_cell BK102.out 3).trans rfl;have hcz4_4:w3.cell? ⟨gb102,4,none⟩=some (.string (⟨#[]⟩:ByteArray)):=(blk_cell BK102.out 4).trans rfl;have hcz4_5:w3.cell? ⟨gb102,5,none⟩=some (.slice none 0 0):=(blk_cell BK102.out 5).trans rfl;have hfz4_0:=blk_frozen BK102.out 0;have hfz4_1:=blk_frozen BK102.out 1;have hfz4_2:=blk_frozen BK102.out 2;have hfz4_3:=blk_frozen BK102.out 3;have hfz4_4:=blk_frozen BK102.out 4;have hfz4_5:=blk_frozen BK102.out 5))
  refine bodyPost_ret (results_cell_row rfl _ _ gb102 26 #[.int .i64 1, .bool false, .slice none 0 0, .int .u64 1, .string (⟨#[]⟩:ByteArray), .slice none 0 0] (0,0) _ rfl (by(with_reducible repeat(first|refine blk_drewN ?_ _|refine blk_drew ?_|refine blk_alloc ?_ _));refine blk_put (cs:=#[.int .i64 1, .bool false, .slice none 0 0, .int .u64 1, .string (⟨#[]⟩:ByteArray), .slice none 0 0]) ?_ 5 _ rfl;(with_reducible repeat(first|refine blk_drewN ?_ _|refine blk_drew ?_|refine blk_alloc ?_ _));refine blk_put (cs:=#[.int .i64 1, .bool false, .slice none 0 0, .int .u64 1, .string (⟨#[]⟩:ByteArray), .slice none 0 0]) ?_ 4 _ rfl;(with_reducible repeat(first|refine blk_drewN ?_ _|refine blk_drew ?_|refine blk_alloc ?_ _));refine blk_put (cs:=#[.int .i64 1, .bool false, .slice none 0 0, .int .u64 0, .string (⟨#[]⟩:ByteArray), .slice none 0 0]) ?_ 3 _ rfl;(with_reducible repeat(first|refine blk_drewN ?_ _|refine blk_drew ?_|refine blk_alloc ?_ _));refine blk_put (cs:=#[.int .i64 1, .bool false, .slice none 0 0, .int .u64 0, .string (⟨#[]⟩:ByteArray), .slice none 0 0]) ?_ 2 _ rfl;(with_reducible repeat(first|refine blk_drewN ?_ _|refine blk_drew ?_|refine blk_alloc ?_ _));refine blk_put (cs:=#[.int .i64 1, .bool false, .slice none 0 0, .int .u64 0, .string (⟨#[]⟩:ByteArray), .slice none 0 0]) ?_ 1 _ rfl;(with_reducible repeat(first|refine blk_drewN ?_ _|refine blk_drew ?_|refine blk_alloc ?_ _));refine blk_put (cs:=#[.int .i64 0, .bool false, .slice none 0 0, .int .u64 0, .string (⟨#[]⟩:ByteArray), .slice none 0 0]) ?_ 0 _ rfl;(with_reducible repeat(first|refine blk_drewN ?_ _|refine blk_drew ?_|refine blk_alloc ?_ _));exact BK102.out) Tryz.underlying26 rfl (by kernel_rfl)) rfl ?_
  exact⟨_,_,by first|rfl|(simp[errW_none,errW_some]<;>rfl)|(simp[*,errW_none,errW_some]<;>rfl),by first|exact Kd.R_nil _ _ _ _ _|exact Kd.N_nil _ _ _ _ _|exact Kd.V_nil _ _ _ _ _|exact Kd.Q_nil _ _ _ _ _|exact Kd.S_nil _ _ _ _ _,by first|exact Kd.R_nil _ _ _ _ _|exact Kd.N_nil _ _ _ _ _|exact Kd.V_nil _ _ _ _ _|exact Kd.Q_nil _ _ _ _ _|exact Kd.S_nil _ _ _ _ _,by repeat(first|(with_reducible first|exact HB.out|apply below_alloc|apply pw_below_drewN|apply below_drew1|refine below_set ?_ GE102.out)|exact HB.out)⟩
 ·replace c2:=Bool.eq_false_iff.mpr c2
  subst c2
  have H1:(some (1,false,([]:List Int),0,(⟨#[]⟩:ByteArray),([]:List (S26))))=some (r1,r2,r3,r4,r5,r6):=by rw[if_neg (show¬(false=true) by decide)] at H;exact H
  clear H
  have H:=H1
  clear H1
  simp only[Option.some.injEq,Prod.mk.injEq] at H
  obtain⟨rfl,rfl,rfl,rfl,rfl,rfl⟩:=H
  go_enter Tryz.func22,Tryz.ntmps22
  go_wp2_with (first|((with_reducible refine gate_dst (N:=2) rfl ?_);refine box_event ?hg (N:=2) ?hd (cs:=#[.int .i64 0, .bool false, .slice none 0 0, .int .u64 0, .string (⟨#[]⟩:ByteArray), .slice none 0 0]) (t:=26) ?hr ?_;(case hd=>rfl);(case hg=>rfl);(case hr=>first|(go_simp;done)|(go_simp;rfl));intro gb102 hg w5 hbox hb;have n0_:=Aside0.mk (below_step (by repeat(first|(with_reducible first|exact HB.out|apply below_alloc|apply pw_below_drewN|apply below_drew1)|exact HB.out)) hb);have n1_:=Aside0.mk (hbox);have n2_:=Aside0.mk ((by rw[hg];exact(below_size (by repeat(first|(with_reducible first|exact HB.out|apply below_alloc|apply pw_below_drewN|apply below_drew1)|exact HB.out))):w.heap.size≤gb102));have n3_:=Aside0.mk ((by rw[hg];exact(below_size (by repeat(first|(with_reducible first|exact HB.out|apply below_alloc|apply pw_below_drewN|apply below_drew1)|exact HB.out))):w.heap.size≤gb102));clear HB;have HB:=n0_;have BK102:=n1_;have GW102:=n2_;have GE102:=n3_;clear n0_ n1_ n2_ n3_;clear hb hbox hg;have hcz6_0:w5.cell? ⟨gb102,0,none⟩=some (.int .i64 0):=(blk_cell BK102.out 0).trans rfl;have hcz6_1:w5.cell? ⟨gb102,1,none⟩=some (.bool false):=(blk_cell BK102.out 1).trans rfl;have hcz6_2:w5.cell? ⟨gb102,2,none⟩=some (.slice none 0 0):=(blk_cell BK102.out 2).trans rfl;have hcz6_3:w5.cell? ⟨gb102,3,none⟩=some (.int .u64 0):=(blk_cell BK102.out 3).trans rfl;have hcz6_4:w5.cell? ⟨gb102,4,none⟩=some (.string (⟨#[]⟩:ByteArray)):=(blk_cell BK102.out 4).trans rfl;have hcz6_5:w5.cell? ⟨gb102,5,none⟩=some (.slice none 0 0):=(blk_cell BK102.out 5).trans rfl;have hfz6_0:=blk_frozen BK102.out 0;have hfz6_1:=blk_frozen BK102.out 1;have hfz6_2:=blk_frozen BK102.out 2;have hfz6_3:=blk_frozen BK102.out 3;have hfz6_4:=blk_frozen BK102.out 4;have hfz6_5:=blk_frozen BK102.out 5))
  refine bodyPost_ret (results_cell_row rfl _ _ gb102 26 #[.int .i64 1, .bool false, .slice none 0 0, .int .u64 0, .string (⟨#[]⟩:ByteArray), .slice none 0 0] (0,0) _ rfl (by(with_reducible repeat(first|refine blk_drewN ?_ _|refine blk_drew ?_|refine blk_alloc ?_ _));refine blk_put (cs:=#[.int .i64 1, .bool false, .slice none 0 0, .int .u64 0, .string (⟨#[]⟩:ByteArray), .slice none 0 0]) ?_ 5 _ rfl;(with_reducible repeat(first|refine blk_drewN ?_ _|refine blk_drew ?_|refine blk_alloc ?_ _));refine blk_put (cs:=#[.int .i64 1, .bool false, .slice none 0 0, .int .u64 0, .string (⟨#[]⟩:ByteArray), .slice none 0 0]) ?_ 4 _ rfl;(with_reducible repeat(first|refine blk_drewN ?_ _|refine blk_drew ?_|refine blk_alloc ?_ _));refine blk_put (cs:=#[.int .i64 1, .bool false, .slice none 0 0, .int .u64 0, .string (⟨#[]⟩:ByteArray), .slice none 0 0]) ?_ 3 _ rfl;(with_reducible repeat(first|refine blk_drewN ?_ _|refine blk_drew ?_|refine blk_alloc ?_ _));refine blk_put (cs:=#[.int .i64 1, .bool false, .slice none 0 0, .int .u64 0, .string (⟨#[]⟩:ByteArray), .slice none 0 0]) ?_ 2 _ rfl;(with_reducible repeat(first|refine blk_drewN ?_ _|refine blk_drew ?_|refine blk_alloc ?_ _));refine blk_put (cs:=#[.int .i64 1, .bool false, .slice none 0 0, .int .u64 0, .string (⟨#[]⟩:ByteArray), .slice none 0 0]) ?_ 1 _ rfl;(with_reducible repeat(first|refine blk_drewN ?_ _|refine blk_drew ?_|refine blk_alloc ?_ _));refine blk_put (cs:=#[.int .i64 0, .bool false, .slice none 0 0, .int .u64 0, .string (⟨#[]⟩:ByteArray), .slice none 0 0]) ?_ 0 _ rfl;(with_reducible repeat(first|refine blk_drewN ?_ _|refine blk_drew ?_|refine blk_alloc ?_ _));exact BK102.out) Tryz.underlying26 rfl (by kernel_rfl)) rfl ?_
  exact⟨_,_,by first|rfl|(simp[errW_none,errW_some]<;>rfl)|(simp[*,errW_none,errW_some]<;>rfl),by first|exact Kd.R_nil _ _ _ _ _|exact Kd.N_nil _ _ _ _ _|exact Kd.V_nil _ _ _ _ _|exact Kd.Q_nil _ _ _ _ _|exact Kd.S_nil _ _ _ _ _,by first|exact Kd.R_nil _ _ _ _ _|exact Kd.N_nil _ _ _ _ _|exact Kd.V_nil _ _ _ _ _|exact Kd.Q_nil _ _ _ _ _|exact Kd.S_nil _ _ _ _ _,by repeat(first|(with_reducible first|exact HB.out|apply below_alloc|apply pw_below_drewN|apply below_drew1|refine below_set ?_ GE102.out)|exact HB.out)⟩
def spec_IntVal.f (a0_0:Bool) (l0_1:List Int):Option (Int×Bool×List Int×Int×ByteArray×(List (S26))):=(some (([]:List Int):List Int)).bind fun y105=>(if y105.length+l0_1.length<140737488355328 then(some (2,a0_0,(y105++l0_1),0,(⟨#[]⟩:ByteArray),([]:List (S26)))) else(none))
def spec_IntVal.T1:Bool×List (List Nat×List Nat):=(true,[([],[]),([0],[0]),([],[]),([],[]),([3],[3]),([2,4],[2,4]),([1,5],[1,5]),([6,5,0,1,2,3,4,5,6],[6])])
def spec_IntVal.B1:List Nat:=[0,1,0,0,8,28,63,127]
theorem spec_IntVal.tab1:rtab .any (opsOf Tryz.f23 1)=spec_IntVal.T1:=by kernel_rfl
theorem spec_IntVal.bits1:waitsOk spec_IntVal.T1.2 spec_IntVal.B1=true:=by kernel_rfl
set_option maxHeartbeats 8000000 in
set_option maxRecDepth 100000 in
theorem spec_IntVal.calls (a0_0:Bool) (A0_1:Option Addr) (c0_1:Nat) (l0_1:List Int) (r1:Int) (r2:Bool) (r3:List Int) (r4:Int) (r5:ByteArray) (r6:List (S26)) (w:World) (hr0_1:Kd.C (Kd.int .u8) w A0_1 l0_1.length l0_1) (hc0_1:l0_1.length≤c0_1) (h:spec_IntVal.f a0_0 l0_1=some (r1,r2,r3,r4,r5,r6)):
 Calls Tryz.prog 23 #[.agg #[.bool a0_0, .slice A0_1 l0_1.length c0_1]] w fun e w'=> ∃v2_ v5_:Value,e= .returned (.agg #[.int .i64 r1, .bool r2,v2_, .int .u64 r4, .string r5,v5_])∧Kd.R (Kd.int .u8) 5 w' w.heap.size (fun _=>True) v2_ r3∧Kd.R k26 26 w' w.heap.size (fun k_=>some k_≠(v2_:Value).ownBlock) v5_ r6∧Below w.heap.size w w':=by
 have hu54:=Tryz.underlying54
 have hu26:=Tryz.underlying26
 have HR0_1:=Aside0.mk hr0_1
 have HC0_1:=Aside0.mk hc0_1
 clear hr0_1 hc0_1
 have HB:=Aside0.mk (Below.refl w.heap.size w)
 have H:((some (([]:List Int):List Int)).bind fun y105=>(if y105.length+l0_1.length<140737488355328 then(some (2,a0_0,(y105++l0_1),0,(⟨#[]⟩:ByteArray),([]:List (S26)))) else(none)))=some (r1,r2,r3,r4,r5,r6):=h
 clear h
 obtain⟨y105,hy105⟩: ∃y_:List Int,y_=(([]:List Int)):=⟨_,rfl⟩
 replace H:(if y105.length+l0_1.length<140737488355328 then(some (2,a0_0,(y105++l0_1),0,(⟨#[]⟩:ByteArray),([]:List (S26)))) else(none))=some (r1,r2,r3,r4,r5,r6):=by first|(rw[hy105];with_reducible exact H)|(have H2_:=(Option.bind_some _ _).symm.trans H;rw[hy105];with_reducible exact H2_)|(have H2_:=(Option.bind_some _ _).symm.trans H;with_reducible exact H2_)|with_reducible exact H|(rw[hy105];exact H)|exact H
 have Ny105:=Aside0.mk hy105
 clear hy105
 by_cases c2:y105.length+l0_1.length<140737488355328
 ·rw[if_pos c2] at H
  have LMc2:=Aside0.mk c2
  clear c2
  obtain⟨y108,hy108⟩: ∃y_:List Int,y_=(y105++l0_1):=⟨_,rfl⟩
  replace H:(some (2,a0_0,y108,0,(⟨#[]⟩:ByteArray),([]:List (S26))))=some (r1,r2,r3,r4,r5,r6):=by first|(rw[hy108];with_reducible exact H)|(have H2_:=(Option.bind_some _ _).symm.trans H;rw[hy108];with_reducible exact H2_)|(have H2_:=(Option.bind_some _ _).symm.trans H;with_reducible exact H2_)|with_reducible exact H|(rw[hy108];exact H)|exact H
  have Ny108:=Aside0.mk hy108
  clear hy108
  simp only[Option.some.injEq,Prod.mk.injEq] at H
  obtain⟨rfl,rfl,rfl,rfl,rfl,rfl⟩:=H
  go_enter Tryz.func23,Tryz.ntmps23
  try go_wp2_with (first|((with_reducible refine gate_dst (N:=1) rfl ?_);refine box_event ?hg (N:=1) ?hd (cs:=#[.bool a0_0, .slice A0_1 l0_1.length c0_1]) (t:=54) ?hr ?_;(case hd=>rfl);(case hg=>rfl);(case hr=>first|(go_simp;done)|(go_simp;rfl));intro gb103 hg w3 hbox hb;have n0_:=Aside0.mk (below_step (by repeat(first|(with_reducible first|exact HB.out|apply below_alloc|apply pw_below_drewN|apply below_drew1)|exact HB.out)) hb);have n1_:=Aside0.mk (hbox);have n2_:=Aside0.mk ((by rw[hg];exact(below_size (by repeat(first|(with_reducible first|exact HB.out|apply below_alloc|apply pw_below_drewN|apply below_drew1)|exact HB.out))):w.heap.size≤gb103));have n3_:=Aside0.mk ((by rw[hg];exact(below_size (by repeat(first|(with_reducible first|exact HB.out|apply below_alloc|apply pw_below_drewN|apply below_drew1)|exact HB.out))):w.heap.size≤gb103));clear HB;have HB:=n0_;have BK103:=n1_;have GW103:=n2_;have GE103:=n3_;clear n0_ n1_ n2_ n3_;clear hb hbox hg)|((with_reducible refine gate_dst (N:=2) rfl ?_);refine box_event ?hg (N:=2) ?hd (cs:=#[.int .i64 0, .bool false, .slice none 0 0, .int .u64 0, .string (⟨#[]⟩:ByteArray), .slice none 0 0]) (t:=26) ?hr ?_;(case hd=>rfl);(case hg=>rfl);(case hr=>first|(go_simp;done)|(go_simp;rfl));intro gb104 hg w4 hbox hb;have n0_:=Aside0.mk (blk_below (g:=gb103) (o:= .cells #[.bool a0_0, .slice A0_1 l0_1.length c0_1] 54 (0,0)) (by(with_reducible repeat(first|refine blk_drewN ?_ _|refine blk_drew ?_|refine blk_alloc ?_ _));exact BK103.out) hb);have n1_:=Aside0.mk (below_step (by repeat(first|(with_reducible first|exact HB.out|apply below_alloc|apply pw_below_drewN|apply below_drew1|refine below_set ?_ GE103.out)|exact HB.out)) hb);have n2_:=Aside0.mk (hbox);have n3_:=Aside0.mk ((by rw[hg];exact(below_size (by repeat(first|(with_reducible first|exact HB.out|apply below_alloc|apply pw_below_drewN|apply below_drew1|refine below_set ?_ GE103.out)|exact HB.out))):w.heap.size≤gb104));have n4_:=Aside0.mk ((by rw[hg];exact(below_size (by repeat(first|(with_reducible first|exact HB.out|apply below_alloc|apply pw_below_drewN|apply below_drew1|refine below_set ?_ GE103.out)|exact HB.out))):w.heap.size≤gb104));have n5_:=Aside0.mk ((by rw[hg];exact Nat.ne_of_lt (blk_lt (g:=gb103) (o:= .cells #[.bool a0_0, .slice A0_1 l0_1.length c0_1] 54 (0,0)) (by(with_reducible repeat(first|refine blk_drewN ?_ _|refine blk_drew ?_|refine blk_alloc ?_ _));exact BK103.out)):gb103≠gb104));have n6_:=Aside0.mk ((by rw[hg];exact Nat.ne_of_gt (blk_lt (g:=gb103) (o:= .cells #[.bool a0_0, .slice A0_1 l0_1.length c0_1] 54 (0,0)) (by(with_reducible repeat(first|refine blk_drewN ?_ _|refine blk_drew ?_|refine blk_alloc ?_ _));exact BK103.out)):gb104≠gb103));clear BK103;clear HB;have BK103:=n0_;have HB:=n1_;have BK104:=n2_;have GW104:=n3_;have GE104:=n4_;have NB103_104:=n5_;have NB104_103:=n6_;clear n0_ n1_ n2_ n3_ n4_ n5_ n6_;clear hb hbox hg))
  have n0_:=Aside0.mk (blk_drew BK103.out)
  have n1_:=Aside0.mk (blk_drew BK104.out)
  have n2_:=Aside0.mk (below_drew1 HB.out)
  clear BK103
  clear BK104
  clear HB
  have BK103:=n0_
  have BK104:=n1_
  have HB:=n2_
  clear n0_ n1_ n2_
  refine start_ (n:=8) (S:=fun w'=>w'.cell? ⟨gb103,0,none⟩=some (.bool a0_0)∧w'.cell? ⟨gb103,1,none⟩=some (.slice A0_1 l0_1.length c0_1)) (ds:=[]) #[false,false,false,false,false,false,false,false] (by kernel_rfl) rfl rfl ⟨(blk_cell BK103.out 0).trans rfl,(blk_cell BK103.out 1).trans rfl⟩ (fun hHeld=>?_);refine with_tabW spec_IntVal.tab1 spec_IntVal.bits1 (fun HT_ HW_=>?_)
  generalize w4.drew=w5 at BK103 BK104 HB hHeld⊢
  refine pure_ (i:=0) (N:=some 3) (v:=?_) (a':=?_) #[true,false,false,false,false,false,false,false] rfl rfl (any_of HT_.out (by kernel_rfl)) (fun _ _ _ h=>h) (Or.inl ⟨by rfl,?_⟩) ?_ ?_
  rotate_left
  ·intro w'
   go_simp
   with_reducible rfl
  rotate_left
  ·simp only[Act.put,List.setIfInBounds_toArray,List.set_cons_zero,List.set_cons_succ,i64_w,i32_w]
   rfl
  refine pure_ (i:=3) (N:=some 6) (v:=?_) (a':=?_) #[true,false,false,true,false,false,false,false] rfl rfl (any_of HT_.out (by kernel_rfl)) (fun _ _ _ h=>h) (Or.inl ⟨by rfl,?_⟩) ?_ ?_
  rotate_left
  ·intro w'
   go_simp
   with_reducible rfl
  rotate_left
  ·simp only[Act.put,List.setIfInBounds_toArray,List.set_cons_zero,List.set_cons_succ,i64_w,i32_w]
   rfl
  refine take_ (i:=1) (N:=some 4) (v:=?_) (a':=?_) #[true,true,false,true,false,false,false,false] rfl rfl (take_ofW HT_.out HW_.out (by kernel_rfl)) (fun _ _ _ h=>h) (Or.inl ⟨by rfl,?_⟩) hHeld ?_ ?_
  rotate_left
  ·rintro w' ⟨s0,s1⟩
   go_simp
   with_reducible rfl
  rotate_left
  ·simp only[Act.put,List.setIfInBounds_toArray,List.set_cons_zero,List.set_cons_succ,i64_w,i32_w]
   rfl
  refine take_ (i:=4) (N:=some 7) (v:=?_) (a':=?_) #[true,true,false,true,true,false,false,false] rfl rfl (take_ofW HT_.out HW_.out (by kernel_rfl)) (fun _ _ _ h=>h) (Or.inl ⟨by rfl,?_⟩) hHeld ?_ ?_
  rotate_left
  ·rintro w' ⟨s0,s1⟩
   go_simp
   with_reducible rfl
  rotate_left
  ·simp only[Act.put,List.setIfInBounds_toArray,List.set_cons_zero,List.set_cons_succ,i64_w,i32_w]
   rfl
  refine one_ (i:=2) (N:=some 5) #[true,true,true,true,true,false,false,false] rfl rfl (one_of HT_.out (by kernel_rfl)) (by decide) (fun K hK=>?_)
  refine Kd.R_lit_step (Kd.int .u8) _ 5 ?hg (N:=5) ?hd (xs:=([]:List Int)) (inner:=[]) (ok:=fun _=>True) (okp:=fun _=>True) ?hr ?hp (fun _ hk=>hk) trivial (Below.refl _ _) (Nat.le_refl _) (by simp) ?_;(case hd=>rfl);(case hg=>rfl);(case hr=>first|(go_simp;done)|(go_simp;rfl));(case hp=>exact(Reps.none _ _))
  intro v106 w6 ho7 hb hg_ hnew_
  clear hg_ hnew_
  (first|rw[←Ny105.out] at ho7|(simp only[Int.reduceToNat] at ho7;rw[←Ny105.out] at ho7))
  have n0_:=Aside0.mk (Kd.R_lower ho7 (below_size (by repeat(first|(with_reducible first|exact HB.out|apply below_alloc|apply pw_below_drewN|apply below_drew1|refine below_set ?_ GE103.out|refine below_set ?_ GE104.out)|exact HB.out))))
  have n1_:=Aside0.mk (blk_below (g:=gb103) (o:= .cells #[.bool a0_0, .slice A0_1 l0_1.length c0_1] 54 (0,0)) (by(with_reducible repeat(first|refine blk_drewN ?_ _|refine blk_drew ?_|refine blk_alloc ?_ _));exact BK103.out) hb)
  have n2_:=Aside0.mk (blk_below (g:=gb104) (o:= .cells #[.int .i64 0, .bool false, .slice none 0 0, .int .u64 0, .string (⟨#[]⟩:ByteArray), .slice none 0 0] 26 (0,0)) (by(with_reducible repeat(first|refine blk_drewN ?_ _|refine blk_drew ?_|refine blk_alloc ?_ _));exact BK104.out) hb)
  have n3_:=Aside0.mk (below_step (by repeat(first|(with_reducible first|exact HB.out|apply below_alloc|apply pw_below_drewN|apply below_drew1|refine below_set ?_ GE103.out|refine below_set ?_ GE104.out)|exact HB.out)) hb)
  clear BK103
  clear BK104
  clear HB
  have HO107:=n0_
  have BK103:=n1_
  have BK104:=n2_
  have HB:=n3_
  clear n0_ n1_ n2_ n3_
  clear hb ho7
  refine hK.out _ _ ⟨(blk_cell BK103.out 0).trans rfl,(blk_cell BK103.out 1).trans rfl⟩ (fun hHeld=>?_)
  clear hK K
  refine norm_ (a':=?_) ?_ ?_
  rotate_left
  ·show Act.put _ (some 5) _=_
   simp only[Act.put,List.setIfInBounds_toArray,List.set_cons_zero,List.set_cons_succ,i64_w,i32_w]
   rfl
  refine one_ (i:=5) (N:=some 8) #[true,true,true,true,true,true,false,false] rfl rfl (one_of HT_.out (by kernel_rfl)) (by decide) (fun K hK=>?_)
  refine Kd.R_append_rows_step (Kd.int .u8) (w0:=w) w.heap.size (by rfl) (.tmp 5) (.tmp 7) 22 5 (.int .u8 0) 1 rfl Tryz.underlying22 info5 rfl (by decide) (by omega) v106 y105 l0_1 _ _ _ (fun _=>True) (fun _=>False) rfl rfl ?aO ?aR (fun _ _ h=>h) (fun _ h=>h.elim) ?aF ?aB ?aS ?aL ?_
  (case aR=>repeat(first|exact(Kd.C_below HR0_1.out HB.out)|(with_reducible refine Kd.C_alloc ?_ _)|(with_reducible refine Kd.C_drewN ?_ _)|(with_reducible refine Kd.C_drew ?_)))
  (case aB=>exact(by repeat(first|(with_reducible first|exact HB.out|apply below_alloc|apply pw_below_drewN|apply below_drew1|refine below_set ?_ GE103.out|refine below_set ?_ GE104.out)|exact HB.out)))
  (case aF=>exact(fun _ _=>trivial))
  (case aO=>exact(by(with_reducible repeat(first|apply Kd.R_alloc|apply Kd.R_drewN|apply Kd.R_drew));exact HO107.out))
  (case aS=>exact(below_size (by repeat(first|(with_reducible first|exact HB.out|apply below_alloc|apply pw_below_drewN|apply below_drew1|refine below_set ?_ GE103.out|refine below_set ?_ GE104.out)|exact HB.out))))
  (case aL=>have:=LMc2.out;omega)
  intro v109 w8 ho hb hg hat
  rw[←Ny108.out] at ho
  have n0_:=Aside0.mk (blk_grown (g:=gb103) (o:= .cells #[.bool a0_0, .slice A0_1 l0_1.length c0_1] 54 (0,0)) (by(with_reducible repeat(first|refine blk_drewN ?_ _|refine blk_drew ?_|refine blk_alloc ?_ _));exact BK103.out) hg (Kd.R_ne HO107.out BK103.out (by decide)))
  have n1_:=Aside0.mk (blk_grown (g:=gb104) (o:= .cells #[.int .i64 0, .bool false, .slice none 0 0, .int .u64 0, .string (⟨#[]⟩:ByteArray), .slice none 0 0] 26 (0,0)) (by(with_reducible repeat(first|refine blk_drewN ?_ _|refine blk_drew ?_|refine blk_alloc ?_ _));exact BK104.out) hg (Kd.R_ne HO107.out BK104.out (by decide)))
  have n2_:=Aside0.mk (hb)
  have n3_:=Aside0.mk (ho)
  clear BK103
  clear BK104
  clear HB
  clear HO107
  have BK103:=n0_
  have BK104:=n1_
  have HB:=n2_
  have HO110:=n3_
  clear n0_ n1_ n2_ n3_
  clear ho hb hg hat
  obtain⟨Ao9,co9,eo9⟩:=Kd.R_slice HO110.out
  (first|subst eo9|(injection eo9 with f1_ f2_ f3_;have f4_:=f1_.symm;have f5_:=f3_.symm;clear f1_ f2_ f3_;subst f4_;subst f5_))
  refine hK.out _ _ ⟨(blk_cell BK103.out 0).trans rfl,(blk_cell BK103.out 1).trans rfl⟩ (fun hHeld=>?_)
  clear hK K
  refine norm_ (a':=?_) ?_ ?_
  rotate_left
  ·show Act.put _ (some 8) _=_
   simp only[Act.put,List.setIfInBounds_toArray,List.set_cons_zero,List.set_cons_succ,i64_w,i32_w]
   rfl
  refine pure_ (i:=6) (N:=some 9) (v:=?_) (a':=?_) #[true,true,true,true,true,true,true,false] rfl rfl (any_of HT_.out (by kernel_rfl)) (fun _ _ _ h=>h) (Or.inl ⟨by rfl,?_⟩) ?_ ?_
  rotate_left
  ·intro w'
   go_simp
   with_reducible rfl
  rotate_left
  ·simp only[Act.put,List.setIfInBounds_toArray,List.set_cons_zero,List.set_cons_succ,i64_w,i32_w]
   rfl
  refine one_ (i:=7) (N:=none) #[true,true,true,true,true,true,true,true] rfl rfl (one_of HT_.out (by kernel_rfl)) (by decide) (fun K hK=>?_)
  have hs10:w8.cell? ⟨gb104,0,none⟩=some (.int .i64 0):=(blk_cell BK104.out 0).trans rfl
  have hfs10:=blk_frozen BK104.out 0
  have hns10_0:=NB103_104.out
  have hms10_0:=NB104_103.out
  have hs11:w8.cell? ⟨gb104,1,none⟩=some (.bool false):=(blk_cell BK104.out 1).trans rfl
  have hfs11:=blk_frozen BK104.out 1
  have hns11_0:=NB103_104.out
  have hms11_0:=NB104_103.out
  have hs12:w8.cell? ⟨gb104,2,none⟩=some (.slice none 0 0):=(blk_cell BK104.out 2).trans rfl
  have hfs12:=blk_frozen BK104.out 2
  have hns12_0:=NB103_104.out
  have hms12_0:=NB104_103.out
  have hs13:w8.cell? ⟨gb104,3,none⟩=some (.int .u64 0):=(blk_cell BK104.out 3).trans rfl
  have hfs13:=blk_frozen BK104.out 3
  have hns13_0:=NB103_104.out
  have hms13_0:=NB104_103.out
  have hs14:w8.cell? ⟨gb104,4,none⟩=some (.string (⟨#[]⟩:ByteArray)):=(blk_cell BK104.out 4).trans rfl
  have hfs14:=blk_frozen BK104.out 4
  have hns14_0:=NB103_104.out
  have hms14_0:=NB104_103.out
  have hs15:w8.cell? ⟨gb104,5,none⟩=some (.slice none 0 0):=(blk_cell BK104.out 5).trans rfl
  have hfs15:=blk_frozen BK104.out 5
  have hns15_0:=NB103_104.out
  have hms15_0:=NB104_103.out
  refine skip_ (w1:=?_) (by rfl) rfl ?_ ?_
  rotate_left
  ·go_simp
   rfl
  refine hK.out _ _ ⟨((cell_far (p:=⟨gb104,_,none⟩) NB103_104.out _).trans (((cell_far (p:=⟨gb104,_,none⟩) NB103_104.out _).trans (((cell_far (p:=⟨gb104,_,none⟩) NB103_104.out _).trans (((cell_far (p:=⟨gb104,_,none⟩) NB103_104.out _).trans (((cell_far (p:=⟨gb104,_,none⟩) NB103_104.out _).trans (((cell_far (p:=⟨gb104,_,none⟩) NB103_104.out _).trans (hHeld.1)))))))))))),((cell_far (p:=⟨gb104,_,none⟩) NB103_104.out _).trans (((cell_far (p:=⟨gb104,_,none⟩) NB103_104.out _).trans (((cell_far (p:=⟨gb104,_,none⟩) NB103_104.out _).trans (((cell_far (p:=⟨gb104,_,none⟩) NB103_104.out _).trans (((cell_far (p:=⟨gb104,_,none⟩) NB103_104.out _).trans (((cell_far (p:=⟨gb104,_,none⟩) NB103_104.out _).trans (hHeld.2))))))))))))⟩ (fun hHeld=>?_)
  clear hK K
  refine done_ (done_of HT_.out (by kernel_rfl)) ?_
  try go_wp2
  refine bodyPost_ret (results_cell_row rfl _ _ gb104 26 #[.int .i64 2, .bool a0_0, .slice Ao9 y108.length co9, .int .u64 0, .string (⟨#[]⟩:ByteArray), .slice none 0 0] (0,0) _ rfl (by(with_reducible repeat(first|refine blk_drewN ?_ _|refine blk_drew ?_|refine blk_alloc ?_ _));refine blk_put (cs:=#[.int .i64 2, .bool a0_0, .slice Ao9 y108.length co9, .int .u64 0, .string (⟨#[]⟩:ByteArray), .slice none 0 0]) ?_ 5 _ rfl;(with_reducible repeat(first|refine blk_drewN ?_ _|refine blk_drew ?_|refine blk_alloc ?_ _));refine blk_put (cs:=#[.int .i64 2, .bool a0_0, .slice Ao9 y108.length co9, .int .u64 0, .string (⟨#[]⟩:ByteArray), .slice none 0 0]) ?_ 4 _ rfl;(with_reducible repeat(first|refine blk_drewN ?_ _|refine blk_drew ?_|refine blk_alloc ?_ _));refine blk_put (cs:=#[.int .i64 2, .bool a0_0, .slice Ao9 y108.length co9, .int .u64 0, .string (⟨#[]⟩:ByteArray), .slice none 0 0]) ?_ 3 _ rfl;(with_reducible repeat(first|refine blk_drewN ?_ _|refine blk_drew ?_|refine blk_alloc ?_ _));refine blk_put (cs:=#[.int .i64 2, .bool a0_0, .slice none 0 0, .int .u64 0, .string (⟨#[]⟩:ByteArray), .slice none 0 0]) ?_ 2 _ rfl;(with_reducible repeat(first|refine blk_drewN ?_ _|refine blk_drew ?_|refine blk_alloc ?_ _));refine blk_put (cs:=#[.int .i64 2, .bool false, .slice none 0 0, .int .u64 0, .string (⟨#[]⟩:ByteArray), .slice none 0 0]) ?_ 1 _ rfl;(with_reducible repeat(first|refine blk_drewN ?_ _|refine blk_drew ?_|refine blk_alloc ?_ _));refine blk_put (cs:=#[.int .i64 0, .bool false, .slice none 0 0, .int .u64 0, .string (⟨#[]⟩:ByteArray), .slice none 0 0]) ?_ 0 _ rfl;(with_reducible repeat(first|refine blk_drewN ?_ _|refine blk_drew ?_|refine blk_alloc ?_ _));exact BK104.out) Tryz.underlying26 rfl (by kernel_rfl)) rfl ?_
  exact⟨_,_,by first|rfl|(simp[errW_none,errW_some]<;>rfl)|(simp[*,errW_none,errW_some]<;>rfl),by(with_reducible repeat(first|apply Kd.R_alloc|apply Kd.R_drewN|apply Kd.R_drew));exact Kd.R_mono (Kd.R_far (p:=⟨gb104,5,none⟩) (Kd.R_far (p:=⟨gb104,4,none⟩) (Kd.R_far (p:=⟨gb104,3,none⟩) (Kd.R_far (p:=⟨gb104,2,none⟩) (Kd.R_far (p:=⟨gb104,1,none⟩) (Kd.R_far (p:=⟨gb104,0,none⟩) (Kd.R_types HO110.out BK104.out (by decide)) (fun _ hk=>hk.2) (.int .i64 2)) (fun _ hk=>hk.2) (.bool a0_0)) (fun _ hk=>hk.2) (.slice Ao9 y108.length co9)) (fun _ hk=>hk.2) (.int .u64 0)) (fun _ hk=>hk.2) (.string (⟨#[]⟩:ByteArray))) (fun _ hk=>hk.2) (.slice none 0 0)) (fun _ hk=>trivial),by first|exact Kd.R_nil _ _ _ _ _|exact Kd.N_nil _ _ _ _ _|exact Kd.V_nil _ _ _ _ _|exact Kd.Q_nil _ _ _ _ _|exact Kd.S_nil _ _ _ _ _,by repeat(first|(with_reducible first|exact HB.out|apply below_alloc|apply pw_below_drewN|apply below_drew1|refine below_set ?_ GE103.out|refine below_set ?_ GE104.out)|exact HB.out)⟩
 ·rw[if_neg c2] at H
  exact absurd H (by simp)
def spec_cut.l0:Nat→List Int→Int→Option (List Int)
 |0,_,_=>none
 |k+1,x0,x3=>if x3<(x0.length:Int) then(if 0≤x3 then(if(rd x0 x3)=0 then(spec_cut.l0 k x0 (wrap64 (x3+1))) else((some (([]:List Int):List Int)).bind fun y112=>(if x3≤(x0.length:Int) then(if y112.length+(x0.drop (x3:Int).toNat).length<140737488355328 then(some (y112++(x0.drop (x3:Int).toNat))) else(none)) else(none)))) else(none)) else((some (([]:List Int):List Int)).bind fun y119=>(if 0≤x3 then(if x3≤(x0.length:Int) then(if y119.length+(x0.drop (x3:Int).toNat).length<140737488355328 then(some (y119++(x0.drop (x3:Int).toNat))) else(none)) else(none)) else(none)))
def spec_cut.f (k:Nat) (l0:List Int):Option (List Int):=spec_cut.l0 k l0 0
set_option maxHeartbeats 8000000 in
set_option maxRecDepth 100000 in
theorem spec_cut.calls (k:Nat) (A0:Option Addr) (c0:Nat) (l0:List Int) (r:List Int) (w:World) (hr0:Kd.C (Kd.int .u8) w A0 l0.length l0) (hc0:l0.length≤c0) (h:spec_cut.f k l0=some r):
 Calls Tryz.prog 51 #[.slice A0 l0.length c0] w fun e w'=> ∃v0_:Value,e= .returned (v0_)∧Kd.R (Kd.int .u8) 5 w' w.heap.size (fun _=>True) v0_ r∧Below w.heap.size w w':=by
 have HR0:=Aside0.mk hr0
 have HC0:=Aside0.mk hc0
 clear hr0 hc0
 have HB:=Aside0.mk (Below.refl w.heap.size w)
 have H:(spec_cut.l0 k l0 0)=some r:=h
 clear h
 have H':=Aside0.mk H
 clear H
 go_enter Tryz.func51,Tryz.ntmps51
 go_wp2
 go_loopg [3] k (fun kq v3 w'=> ∃(x3_1:Int),v3= .int .i64 x3_1∧Aside0 (spec_cut.l0 kq l0 x3_1=some r)∧Aside0 (kq≤k)∧Aside0 (Below w.heap.size w w'))
 case atStart=>exact⟨(0),(by first|rfl|(simp;done)|(simp[*];done)),H',⟨Nat.le_refl _⟩,⟨by repeat(first|(with_reducible first|exact HB.out|apply below_alloc|apply pw_below_drewN|apply below_drew1)|exact HB.out)⟩⟩
 case round=>
  clear H'
  obtain⟨x3_1,rfl,HA,HK1,HB⟩:=hrel
  cases gk with
  |zero=>exact absurd HA.out (by simp[spec_cut.l0])
  |succ k1=>
   have H:=HA.out
   clear HA
   simp only[spec_cut.l0] at H
   by_cases c2:x3_1<(l0.length:Int)
   ·rw[if_pos c2] at H
    have c2b0:decide (x3_1<(l0.length:Int))=true:=decide_eq_true c2
    clear c2
    by_cases c3:0≤x3_1
    ·rw[if_pos c3] at H
     have c3b0:decide (0≤x3_1)=true:=decide_eq_true c3
     clear c3
     by_cases c4:(rd l0 x3_1)=0
     ·rw[if_pos c4] at H
      have c4b0:((rd l0 x3_1)==0)=true:=beq_iff_eq.mpr c4
      have c4b1:((rd l0 x3_1) !=0)=false:=bne_eq_false_iff_eq.mpr c4
      clear c4
      have H':=Aside0.mk H
      clear H
      have p111:0≤(x3_1:Int):=of_decide_eq_true (by first|(with_reducible assumption)|assumption)
      have q111:x3_1<(l0.length:Int):=of_decide_eq_true (by first|(with_reducible assumption)|assumption)
      obtain⟨ad111,e111,hx111_0⟩:=Kd.at_int HR0.out x3_1 p111 q111
      cases e111
      replace hx111_0:=(HB.out.cell (World.block_lt_of_cell? w _ hx111_0)).trans hx111_0
      replace p111:=eq_true p111
      replace q111:=eq_true q111
      go_wp2
      go_roundg k1
      case measure=>have:=HK1.out;omega
      case rel=>exact⟨(wrap64 (x3_1+1)),(by first|rfl|(simp;done)|(simp[*];done)),H',⟨by have:=HK1.out;omega⟩,⟨by repeat(first|(with_reducible first|exact HB.out|apply below_alloc|apply pw_below_drewN|apply below_drew1)|exact HB.out)⟩⟩
     ·rw[if_neg c4] at H
      have c4b0:((rd l0 x3_1)==0)=false:=beq_eq_false_iff_ne.mpr c4
      have c4b1:((rd l0 x3_1) !=0)=true:=bne_iff_ne.mpr c4
      obtain⟨y112,hy112⟩: ∃y_:List Int,y_=(([]:List Int)):=⟨_,rfl⟩
      replace H:(if x3_1≤(l0.length:Int) then(if y112.length+(l0.drop (x3_1:Int).toNat).length<140737488355328 then(some (y112++(l0.drop (x3_1:Int).toNat))) else(none)) else(none))=some r:=by first|(rw[hy112];with_reducible exact H)|(have H2_:=(Option.bind_some _ _).symm.trans H;rw[hy112];with_reducible exact H2_)|(have H2_:=(Option.bind_some _ _).symm.trans H;with_reducible exact H2_)|with_reducible exact H|(rw[hy112];exact H)|exact H
      have Ny112:=Aside0.mk hy112
      clear hy112
      have c5b0:=eq_true (of_decide_eq_true (by first|(with_reducible assumption)|assumption):0≤x3_1)
      by_cases c6:x3_1≤(l0.length:Int)
      ·rw[if_pos c6] at H
       have c6b0:=eq_true c6
       have c6b1:decide (x3_1≤(l0.length:Int))=true:=decide_eq_true c6
       clear c6
       by_cases c7:y112.length+(l0.drop (x3_1:Int).toNat).length<140737488355328
       ·rw[if_pos c7] at H
        have LMc7:=Aside0.mk c7
        clear c7
        obtain⟨y116,hy116⟩: ∃y_:List Int,y_=(y112++(l0.drop (x3_1:Int).toNat)):=⟨_,rfl⟩
        replace H:(some y116)=some r:=by first|(rw[hy116];with_reducible exact H)|(have H2_:=(Option.bind_some _ _).symm.trans H;rw[hy116];with_reducible exact H2_)|(have H2_:=(Option.bind_some _ _).symm.trans H;with_reducible exact H2_)|with_reducible exact H|(rw[hy116];exact H)|exact H
        have Ny116:=Aside0.mk hy116
        clear hy116
        obtain rfl:=Option.some.inj H
        have p111:0≤(x3_1:Int):=of_decide_eq_true (by first|(with_reducible assumption)|assumption)
        have q111:x3_1<(l0.length:Int):=of_decide_eq_true (by first|(with_reducible assumption)|assumption)
        obtain⟨ad111,e111,hx111_0⟩:=Kd.at_int HR0.out x3_1 p111 q111
        cases e111
        replace hx111_0:=(HB.out.cell (World.block_lt_of_cell? w _ hx111_0)).trans hx111_0
        replace p111:=eq_true p111
        replace q111:=eq_true q111
        go_wp2_with (first|((with_reducible refine gate_dst (N:=17) rfl ?_);refine Kd.R_lit (Kd.int .u8) _ 5 ?hg (N:=17) ?hd (xs:=([]:List Int)) (inner:=[]) (ok:=fun _=>True) (okp:=fun _=>True) ?hr ?hp (fun _ hk=>hk) trivial (Below.refl _ _) (Nat.le_refl _) (by simp) ?_;(case hd=>rfl);(case hg=>rfl);(case hr=>first|(go_simp;done)|(go_simp;rfl));(case hp=>exact(Reps.none _ _));intro v113 w8 ho9 hb hg_ hnew_;clear hg_ hnew_;(first|rw[←Ny112.out] at ho9|(simp only[Int.reduceToNat] at ho9;rw[←Ny112.out] at ho9));have n0_:=Aside0.mk (Kd.R_lower ho9 (below_size (by repeat(first|(with_reducible first|exact HB.out|apply below_alloc|apply pw_below_drewN|apply below_drew1)|exact HB.out))));have n1_:=Aside0.mk (below_step (by repeat(first|(with_reducible first|exact HB.out|apply below_alloc|apply pw_below_drewN|apply below_drew1)|exact HB.out)) hb);clear HB;have HO114:=n0_;have HB:=n1_;clear n0_ n1_;clear hb ho9;obtain⟨i010,hi010,_,hsz10,_⟩:=info_parts info5;obtain⟨A10,hcut10,hA10,hC10⟩:=print_drop_of (P:=Tryz.prog) (Value.int .u8) 0 22 5 .i64 Tryz.underlying22 hi010 hsz10 (some ad111) c0 l0 x3_1 (of_decide_eq_true (by first|(with_reducible assumption)|assumption)) (of_decide_eq_true (by first|(with_reducible assumption)|assumption)) HC0.out;have HR115:=Aside0.mk (Kd.C_of_reads (h1:=fun _=>rfl) (hA10 _ (Kd.reads_of_C HR0.out)));have HC115:=Aside0.mk hC10;clear hA10 hC10 hi010 hsz10)|((with_reducible refine gate_builtin (b:= .append) (xs:=#[.tmp 17, .tmp 20]) rfl ?_);at_builtin;refine Kd.R_append_rows (Kd.int .u8) (w0:=w) w.heap.size rfl (.tmp 17) (.tmp 20) 22 5 (.int .u8 0) 1 rfl Tryz.underlying22 info5 rfl (by decide) (by omega) v113 y112 (l0.drop (x3_1:Int).toNat) _ _ _ (fun _=>True) (fun _=>False) rfl rfl ?aO ?aR (fun _ _ h=>h) (fun _ h=>h.elim) ?aF ?aB ?aS ?aL ?_;(case aR=>first|(rw[←show(l0.drop (x3_1:Int).toNat).length=(l0.length-x3_1.toNat) from List.length_drop];repeat(first|exact(Kd.C_below HR115.out HB.out)|(with_reducible refine Kd.C_alloc ?_ _)|(with_reducible refine Kd.C_drewN ?_ _)|(with_reducible refine Kd.C_drew ?_)))|(repeat(first|exact(Kd.C_below HR115.out HB.out)|(with_reducible refine Kd.C_alloc ?_ _)|(with_reducible refine Kd.C_drewN ?_ _)|(with_reducible refine Kd.C_drew ?_))));(case aB=>exact(by repeat(first|(with_reducible first|exact HB.out|apply below_alloc|apply pw_below_drewN|apply below_drew1)|exact HB.out)));(case aF=>exact(fun _ _=>trivial));(case aO=>exact(by(with_reducible repeat(first|apply Kd.R_alloc|apply Kd.R_drewN|apply Kd.R_drew));exact HO114.out));(case aS=>exact(below_size (by repeat(first|(with_reducible first|exact HB.out|apply below_alloc|apply pw_below_drewN|apply below_drew1)|exact HB.out))));(case aL=>have:=LMc7.out;have hlx_:=(show(l0.drop (x3_1:Int).toNat).length=(l0.length-x3_1.toNat) from List.length_drop);omega);intro v117 w11 ho hb hg hat;rw[←Ny116.out] at ho;have n0_:=Aside0.mk (hb);have n1_:=Aside0.mk (ho);clear HB;clear HO114;have HB:=n0_;have HO118:=n1_;clear n0_ n1_;clear ho hb hg hat))
        go_ret
        exact⟨_,by first|rfl|(simp[errW_none,errW_some]<;>rfl)|(simp[*,errW_none,errW_some]<;>rfl),by(with_reducible repeat(first|apply Kd.R_alloc|apply Kd.R_drewN|apply Kd.R_drew));exact HO118.out,by repeat(first|(with_reducible first|exact HB.out|apply below_alloc|apply pw_below_drewN|apply below_drew1)|exact HB.out)⟩
       ·rw[if_neg c7] at H
        exact absurd H (by simp)
      ·rw[if_neg c6] at H
       exact absurd H (by simp)
    ·rw[if_neg c3] at H
     exact absurd H (by simp)
   ·rw[if_neg c2] at H
    have c2b0:decide (x3_1<(l0.length:Int))=false:=decide_eq_false c2
    clear c2
    obtain⟨y119,hy119⟩: ∃y_:List Int,y_=(([]:List Int)):=⟨_,rfl⟩
    replace H:(if 0≤x3_1 then(if x3_1≤(l0.length:Int) then(if y119.length+(l0.drop (x3_1:Int).toNat).length<140737488355328 then(some (y119++(l0.drop (x3_1:Int).toNat))) else(none)) else(none)) else(none))=some r:=by first|(rw[hy119];with_reducible exact H)|(have H2_:=(Option.bind_some _ _).symm.trans H;rw[hy119];with_reducible exact H2_)|(have H2_:=(Option.bind_some _ _).symm.trans H;with_reducible exact H2_)|with_reducible exact H|(rw[hy119];exact H)|exact H
    have Ny119:=Aside0.mk hy119
    clear hy119
    by_cases c12:0≤x3_1
    ·rw[if_pos c12] at H
     have c12b0:=eq_true c12
     have c12b1:decide (0≤x3_1)=true:=decide_eq_true c12
     clear c12
     by_cases c13:x3_1≤(l0.length:Int)
     ·rw[if_pos c13] at H
      have c13b0:=eq_true c13
      have c13b1:decide (x3_1≤(l0.length:Int))=true:=decide_eq_true c13
      clear c13
      by_cases c14:y119.length+(l0.drop (x3_1:Int).toNat).length<140737488355328
      ·rw[if_pos c14] at H
       have LMc14:=Aside0.mk c14
       clear c14
       obtain⟨y123,hy123⟩: ∃y_:List Int,y_=(y119++(l0.drop (x3_1:Int).toNat)):=⟨_,rfl⟩
       replace H:(some y123)=some r:=by first|(rw[hy123];with_reducible exact H)|(have H2_:=(Option.bind_some _ _).symm.trans H;rw[hy123];with_reducible exact H2_)|(have H2_:=(Option.bind_some _ _).symm.trans H;with_reducible exact H2_)|with_reducible exact H|(rw[hy123];exact H)|exact H
       have Ny123:=Aside0.mk hy123
       clear hy123
       obtain rfl:=Option.some.inj H
       go_wp2_with (first|((with_reducible refine gate_dst (N:=17) rfl ?_);refine Kd.R_lit (Kd.int .u8) _ 5 ?hg (N:=17) ?hd (xs:=([]:List Int)) (inner:=[]) (ok:=fun _=>True) (okp:=fun _=>True) ?hr ?hp (fun _ hk=>hk) trivial (Below.refl _ _) (Nat.le_refl _) (by simp) ?_;(case hd=>rfl);(case hg=>rfl);(case hr=>first|(go_simp;done)|(go_simp;rfl));(case hp=>exact(Reps.none _ _));intro v120 w15 ho16 hb hg_ hnew_;clear hg_ hnew_;(first|rw[←Ny119.out] at ho16|(simp only[Int.reduceToNat] at ho16;rw[←Ny119.out] at ho16));have n0_:=Aside0.mk (Kd.R_lower ho16 (below_size (by repeat(first|(with_reducible first|exact HB.out|apply below_alloc|apply pw_below_drewN|apply below_drew1)|exact HB.out))));have n1_:=Aside0.mk (below_step (by repeat(first|(with_reducible first|exact HB.out|apply below_alloc|apply pw_below_drewN|apply below_drew1)|exact HB.out)) hb);clear HB;have HO121:=n0_;have HB:=n1_;clear n0_ n1_;clear hb ho16;obtain⟨i017,hi017,_,hsz17,_⟩:=info_parts info5;obtain⟨A17,hcut17,hA17,hC17⟩:=print_drop_of (P:=Tryz.prog) (Value.int .u8) 0 22 5 .i64 Tryz.underlying22 hi017 hsz17 A0 c0 l0 x3_1 (of_decide_eq_true (by first|(with_reducible assumption)|assumption)) (of_decide_eq_true (by first|(with_reducible assumption)|assumption)) HC0.out;have HR122:=Aside0.mk (Kd.C_of_reads (h1:=fun _=>rfl) (hA17 _ (Kd.reads_of_C HR0.out)));have HC122:=Aside0.mk hC17;clear hA17 hC17 hi017 hsz17)|((with_reducible refine gate_builtin (b:= .append) (xs:=#[.tmp 17, .tmp 20]) rfl ?_);at_builtin;refine Kd.R_append_rows (Kd.int .u8) (w0:=w) w.heap.size rfl (.tmp 17) (.tmp 20) 22 5 (.int .u8 0) 1 rfl Tryz.underlying22 info5 rfl (by decide) (by omega) v120 y119 (l0.drop (x3_1:Int).toNat) _ _ _ (fun _=>True) (fun _=>False) rfl rfl ?aO ?aR (fun _ _ h=>h) (fun _ h=>h.elim) ?aF ?aB ?aS ?aL ?_;(case aR=>first|(rw[←show(l0.drop (x3_1:Int).toNat).length=(l0.length-x3_1.toNat) from List.length_drop];repeat(first|exact(Kd.C_below HR122.out HB.out)|(with_reducible refine Kd.C_alloc ?_ _)|(with_reducible refine Kd.C_drewN ?_ _)|(with_reducible refine Kd.C_drew ?_)))|(repeat(first|exact(Kd.C_below HR122.out HB.out)|(with_reducible refine Kd.C_alloc ?_ _)|(with_reducible refine Kd.C_drewN ?_ _)|(with_reducible refine Kd.C_drew ?_))));(case aB=>exact(by repeat(first|(with_reducible first|exact HB.out|apply below_alloc|apply pw_below_drewN|apply below_drew1)|exact HB.out)));(case aF=>exact(fun _ _=>trivial));(case aO=>exact(by(with_reducible repeat(first|apply Kd.R_alloc|apply Kd.R_drewN|apply Kd.R_drew));exact HO121.out));(case aS=>exact(below_size (by repeat(first|(with_reducible first|exact HB.out|apply below_alloc|apply pw_below_drewN|apply below_drew1)|exact HB.out))));(case aL=>have:=LMc14.out;have hlx_:=(show(l0.drop (x3_1:Int).toNat).length=(l0.length-x3_1.toNat) from List.length_drop);omega);intro v124 w18 ho hb hg hat;rw[←Ny123.out] at ho;have n0_:=Aside0.mk (hb);have n1_:=Aside0.mk (ho);clear HB;clear HO121;have HB:=n0_;have HO125:=n1_;clear n0_ n1_;clear ho hb hg hat))
       go_ret
       exact⟨_,by first|rfl|(simp[errW_none,errW_some]<;>rfl)|(simp[*,errW_none,errW_some]<;>rfl),by(with_reducible repeat(first|apply Kd.R_alloc|apply Kd.R_drewN|apply Kd.R_drew));exact HO125.out,by repeat(first|(with_reducible first|exact HB.out|apply below_alloc|apply pw_below_drewN|apply below_drew1)|exact HB.out)⟩
      ·rw[if_neg c14] at H
       exact absurd H (by simp)
     ·rw[if_neg c13] at H
      exact absurd H (by simp)
    ·rw[if_neg c12] at H
     exact absurd H (by simp)
end Go.Proofs.YtkplnbjgkhmbcaaGreatDoor.PFnCompare
namespace Go.Proofs.YtkplnbjgkhmbcaaGreatDoor.PCmp
open Go.RowKit Go.Proofs.YtkplnbjgkhmbcaaGreatDoorW.PrintWords Go.Proofs.YtkplnbjgkhmbcaaGreatDoorW.PrintLast Go.Proofs.YtkplnbjgkhmbcaaGreatDoorW.PrintMore
attribute [local go_sem] max2_int min2_int max_two min_two max_three min_three max_four min_four
set_option linter.unusedVariables false
set_option linter.unusedSimpArgs false
def errW:Option Int→Value
 |none=> .nilIface
 |some c=> .iface 0 (.int .i64 c)
theorem errW_none:errW none= .nilIface:=rfl
theorem errW_some (c:Int):errW (some c)= .iface 0 (.int .i64 c):=rfl
end Go.Proofs.YtkplnbjgkhmbcaaGreatDoor.PCmp
namespace Go.Proofs.YtkplnbjgkhmbcaaGreatDoor.PCmp
open Go.RowKit Go.Proofs.YtkplnbjgkhmbcaaGreatDoorW.PrintWords Go.Proofs.YtkplnbjgkhmbcaaGreatDoorW.PrintLast Go.Proofs.YtkplnbjgkhmbcaaGreatDoorW.PrintMore
attribute [local go_sem] max2_int min2_int max_two min_two max_three min_three max_four min_four
set_option linter.unusedVariables false
set_option linter.unusedSimpArgs false
def spec_Int_Zero.f (a0_0:Bool) (l0_1:List Int):Option (Bool):=some ((l0_1.length:Int)==0)
set_option maxHeartbeats 8000000 in
set_option maxRecDepth 100000 in
theorem spec_Int_Zero.calls (a0_0:Bool) (A0_1:Option Addr) (c0_1:Nat) (l0_1:List Int) (r:Bool) (w:World) (hr0_1:Kd.C (Kd.int .u8) w A0_1 l0_1.length l0_1) (hc0_1:l0_1.length≤c0_1) (h:spec_Int_Zero.f a0_0 l0_1=some r):
 Calls Tryz.prog 113 #[.agg #[.bool a0_0, .slice A0_1 l0_1.length c0_1]] w fun e w'=>e= .returned (.bool r)∧Below w.heap.size w w':=by
 have hu54:=Tryz.underlying54
 have HR0_1:=Aside0.mk hr0_1
 have HC0_1:=Aside0.mk hc0_1
 clear hr0_1 hc0_1
 have HB:=Aside0.mk (Below.refl w.heap.size w)
 have H:(some ((l0_1.length:Int)==0))=some r:=h
 clear h
 obtain rfl:=Option.some.inj H
 go_enter Tryz.func113,Tryz.ntmps113
 go_wp2_with (first|((with_reducible refine gate_dst (N:=1) rfl ?_);refine box_event ?hg (N:=1) ?hd (cs:=#[.bool a0_0, .slice A0_1 l0_1.length c0_1]) (t:=54) ?hr ?_;(case hd=>rfl);(case hg=>rfl);(case hr=>first|(go_simp;done)|(go_simp;rfl));intro gb101 hg w2 hbox hb;have n0_:=Aside0.mk (below_step (by repeat(first|(with_reducible first|exact HB.out|apply below_alloc|apply pw_below_drewN|apply below_drew1)|exact HB.out)) hb);have n1_:=Aside0.mk (hbox);have n2_:=Aside0.mk ((by rw[hg];exact(below_size (by repeat(first|(with_reducible first|exact HB.out|apply below_alloc|apply pw_below_drewN|apply below_drew1)|exact HB.out))):w.heap.size≤gb101));have n3_:=Aside0.mk ((by rw[hg];exact(below_size (by repeat(first|(with_reducible first|exact HB.out|apply below_alloc|apply pw_below_drewN|apply below_drew1)|exact HB.out))):w.heap.size≤gb101));clear HB;have HB:=n0_;have BK101:=n1_;have GW101:=n2_;have GE101:=n3_;clear n0_ n1_ n2_ n3_;clear hb hbox hg;have hcz3_0:w2.cell? ⟨gb101,0,none⟩=some (.bool a0_0):=(blk_cell BK101.out 0).trans rfl;have hcz3_1:w2.cell? ⟨gb101,1,none⟩=some (.slice A0_1 l0_1.length c0_1):=(blk_cell BK101.out 1).trans rfl;have hfz3_0:=blk_frozen BK101.out 0;have hfz3_1:=blk_frozen BK101.out 1))
 go_ret
 exact⟨by first|rfl|(simp[errW_none,errW_some]<;>rfl)|(simp[*,errW_none,errW_some]<;>rfl),by repeat(first|(with_reducible first|exact HB.out|apply below_alloc|apply pw_below_drewN|apply below_drew1|refine below_set ?_ GE101.out)|exact HB.out)⟩
end Go.Proofs.YtkplnbjgkhmbcaaGreatDoor.PCmp
namespace Go.Proofs.YtkplnbjgkhmbcaaGreatDoor.PbytesOf
open Go.RowKit Go.Proofs.YtkplnbjgkhmbcaaGreatDoorW.PrintWords Go.Proofs.YtkplnbjgkhmbcaaGreatDoorW.PrintLast Go.Proofs.YtkplnbjgkhmbcaaGreatDoorW.PrintMore
attribute [local go_sem] max2_int min2_int max_two min_two max_three min_three max_four min_four
set_option linter.unusedVariables false
set_option linter.unusedSimpArgs false
def errW:Option Int→Value
 |none=> .nilIface
 |some c=> .iface 0 (.int .i64 c)
theorem errW_none:errW none= .nilIface:=rfl
theorem errW_some (c:Int):errW (some c)= .iface 0 (.int .i64 c):=rfl
theorem info5:(Tryz.prog.info? 5).map (fun i=>(i.zero,i.size,i.bytes))=some (some (.int .u8 0),1,1):=by kernel_rfl
end Go.Proofs.YtkplnbjgkhmbcaaGreatDoor.PbytesOf
namespace Go.Proofs.YtkplnbjgkhmbcaaGreatDoor.PbytesOf
open Go.RowKit Go.Proofs.YtkplnbjgkhmbcaaGreatDoorW.PrintWords Go.Proofs.YtkplnbjgkhmbcaaGreatDoorW.PrintLast Go.Proofs.YtkplnbjgkhmbcaaGreatDoorW.PrintMore
attribute [local go_sem] max2_int min2_int max_two min_two max_three min_three max_four min_four
set_option linter.unusedVariables false
set_option linter.unusedSimpArgs false
def spec_bytesOf.l0:Nat→Int→List Int→Int→Option (List Int)
 |0,_,_,_=>none
 |k+1,x0,x3,x4=>if x4≥0 then(if 0≤x4 then(if x4<(x3.length:Int) then(spec_bytesOf.l0 k (x0/256) (x3.set (x4:Int).toNat ((x0)%256)) (wrap64 (x4-1))) else(none)) else(none)) else(some x3)
def spec_bytesOf.f (k:Nat) (a0:Int):Option (List Int):=if 8≤281474976710656 then(spec_bytesOf.l0 k a0 (List.replicate 8 0) 7) else(none)
set_option maxHeartbeats 8000000 in
set_option maxRecDepth 100000 in
theorem spec_bytesOf.calls (k:Nat) (a0:Int) (r:List Int) (w:World) (h:spec_bytesOf.f k a0=some r):
 Calls Tryz.prog 127 #[.int .u64 a0] w fun e w'=> ∃v0_:Value,e= .returned (v0_)∧Kd.R (Kd.int .u8) 5 w' w.heap.size (fun _=>True) v0_ r∧Below w.heap.size w w':=by
 have HB:=Aside0.mk (Below.refl w.heap.size w)
 have H:(if 8≤281474976710656 then(spec_bytesOf.l0 k a0 (List.replicate 8 0) 7) else(none))=some r:=h
 clear h
 by_cases c2:8≤281474976710656
 ·rw[if_pos c2] at H
  have c2b0:=eq_true c2
  have c2b1:decide (8≤281474976710656)=true:=decide_eq_true c2
  clear c2
  obtain⟨y101,hy101⟩: ∃y_:List Int,y_=(List.replicate 8 0):=⟨_,rfl⟩
  replace H:(spec_bytesOf.l0 k a0 y101 7)=some r:=by first|(rw[hy101];with_reducible exact H)|(have H2_:=(Option.bind_some _ _).symm.trans H;rw[hy101];with_reducible exact H2_)|(have H2_:=(Option.bind_some _ _).symm.trans H;with_reducible exact H2_)|with_reducible exact H|(rw[hy101];exact H)|exact H
  have Ny101:=Aside0.mk hy101
  clear hy101
  have H':=Aside0.mk H
  clear H
  go_enter Tryz.func127,Tryz.ntmps127
  go_wp2_with (first|((with_reducible refine gate_dst (N:=5) rfl ?_);refine Kd.R_make (Kd.int .u8) _ 5 rfl (N:=5) rfl 22 _ _ rfl 8 rfl rfl Tryz.underlying22 (.int .u8 0) 1 info5 rfl (by decide) (by omega) 0 (ok:=fun _=>True) (okp:=fun _=>True) rfl (fun _ hk=>hk) trivial (by omega) (by omega) (Below.refl _ _) (Nat.le_refl _) ?_;intro v102 w3 ho4 hb hg_ hnew_;clear hg_ hnew_;(first|rw[←Ny101.out] at ho4|(simp only[Int.reduceToNat] at ho4;rw[←Ny101.out] at ho4));have n0_:=Aside0.mk (Kd.R_lower ho4 (below_size (by repeat(first|(with_reducible first|exact HB.out|apply below_alloc|apply pw_below_drewN|apply below_drew1)|exact HB.out))));have n1_:=Aside0.mk (below_step (by repeat(first|(with_reducible first|exact HB.out|apply below_alloc|apply pw_below_drewN|apply below_drew1)|exact HB.out)) hb);clear HB;have HO103:=n0_;have HB:=n1_;clear n0_ n1_;clear hb ho4))
  go_loopg [0,4] k (fun kq v0 v4 w'=> ∃(x0_1:Int) (x3_1:List Int) (x4_1:Int),v0= .int .u64 x0_1∧v4= .int .i64 x4_1∧Aside0 (spec_bytesOf.l0 kq x0_1 x3_1 x4_1=some r)∧Aside0 (kq≤k)∧Aside0 (Kd.R (Kd.int .u8) 5 w' w.heap.size (fun _=>True) v102 x3_1)∧Aside0 (Below w.heap.size w w'))
  case atStart=>exact⟨(a0),(y101),(7),(by first|rfl|(simp;done)|(simp[*];done)),(by first|rfl|(simp;done)|(simp[*];done)),H',⟨Nat.le_refl _⟩,⟨by(with_reducible repeat(first|apply Kd.R_alloc|apply Kd.R_drewN|apply Kd.R_drew));exact HO103.out⟩,⟨by repeat(first|(with_reducible first|exact HB.out|apply below_alloc|apply pw_below_drewN|apply below_drew1)|exact HB.out)⟩⟩
  case round=>
   clear H'
   try clear c1
   try clear c2
   try clear c2b0
   try clear c2b1
   try clear p2
   obtain⟨x0_1,x3_1,x4_1,rfl,rfl,HA,HK1,HO_3,HB⟩:=hrel
   cases gk with
   |zero=>exact absurd HA.out (by simp[spec_bytesOf.l0])
   |succ k1=>
    have H:=HA.out
    clear HA
    simp only[spec_bytesOf.l0] at H
    by_cases c5:x4_1≥0
    ·rw[if_pos c5] at H
     have c5b0:decide (0≤x4_1)=true:=decide_eq_true c5
     clear c5
     by_cases c6:0≤x4_1
     ·rw[if_pos c6] at H
      have c6b0:decide (0≤x4_1)=true:=decide_eq_true c6
      clear c6
      by_cases c7:x4_1<(x3_1.length:Int)
      ·rw[if_pos c7] at H
       have c7b0:decide (x4_1<(x3_1.length:Int))=true:=decide_eq_true c7
       clear c7
       obtain⟨y104,hy104⟩: ∃y_:List Int,y_=(x3_1.set (x4_1:Int).toNat ((x0_1)%256)):=⟨_,rfl⟩
       replace H:(spec_bytesOf.l0 k1 (x0_1/256) y104 (wrap64 (x4_1-1)))=some r:=by first|(rw[hy104];with_reducible exact H)|(have H2_:=(Option.bind_some _ _).symm.trans H;rw[hy104];with_reducible exact H2_)|(have H2_:=(Option.bind_some _ _).symm.trans H;with_reducible exact H2_)|with_reducible exact H|(rw[hy104];exact H)|exact H
       have Ny104:=Aside0.mk hy104
       clear hy104
       have H':=Aside0.mk H
       clear H
       have p8:0≤(x4_1:Int):=of_decide_eq_true (by first|(with_reducible assumption)|assumption)
       have q8:(x4_1:Int)<((x3_1.length:Int):Int):=of_decide_eq_true (by first|(with_reducible assumption)|assumption)
       obtain⟨go8,co8,eo8,gb8,gl8,cl8,HG8⟩:=Kd.R_form HO_3.out (by omega)
       (first|cases eo8|(injection eo8 with ea_ en_ ec_;(first|subst ea_|(injection ea_ with ea_;subst ea_));subst ec_;clear en_))
       have GB8:=Aside0.mk gb8
       have GG8:=Aside0.mk HG8
       clear gb8 gl8 HG8
       obtain⟨hx8_0,hf8_0⟩:=Kd.R_celln 0 HO_3.out (x4_1:Int) p8 q8
       replace p8:=eq_true p8
       replace q8:=eq_true q8
       have HP9:=Kd.R_putg HO_3.out (x4_1:Int) ((x0_1)%256)
       go_wp2_with (first|((with_reducible refine gate_store (t:=5) (p:=14) rfl ?_);refine store_event (t:=5) (p:=14) (v:=?vo_w10) (w1:=(wr.setCell ⟨go8,(x4_1:Int).toNat,none⟩ (.int .u8 ((x0_1)%256)))) ?hg ?ho ?hn ?hr ?_;(case ho=>rfl);(case hg=>rfl);(case hn=>rfl);(case hr=>first|(go_simp;done)|(go_simp;rfl));intro w10 hw;have hg:wr.grownBy w10 (some go8):=(by rw[hw];exact HP9.2);have hp_:Kd.R (Kd.int .u8) 5 w10 w.heap.size (fun _=>True) (.slice (some ⟨go8,0,none⟩) x3_1.length co8) y104:=(by rw[hw,Ny104.out];exact HP9.1);clear HP9;have n0_:=Aside0.mk (hp_);have n1_:=Aside0.mk ((by rw[hw];exact below_set (HB.out) GB8.out:Below w.heap.size w w10));clear HO_3;clear HB;have HO_3:=n0_;have HB:=n1_;clear n0_ n1_;clear hg hw hp_))
       go_roundg k1
       case measure=>have:=HK1.out;omega
       case rel=>exact⟨(x0_1/256),(y104),(wrap64 (x4_1-1)),(by first|rfl|(simp;done)|(simp[*];done)),(by first|rfl|(simp;done)|(simp[*];done)),H',⟨by have:=HK1.out;omega⟩,⟨by(with_reducible repeat(first|apply Kd.R_alloc|apply Kd.R_drewN|apply Kd.R_drew));exact HO_3.out⟩,⟨by repeat(first|(with_reducible first|exact HB.out|apply below_alloc|apply pw_below_drewN|apply below_drew1)|exact HB.out)⟩⟩
      ·rw[if_neg c7] at H
       exact absurd H (by simp)
     ·rw[if_neg c6] at H
      exact absurd H (by simp)
    ·rw[if_neg c5] at H
     have c5b0:decide (0≤x4_1)=false:=decide_eq_false c5
     clear c5
     obtain rfl:=Option.some.inj H
     go_wp2
     go_ret
     exact⟨_,by first|rfl|(simp[errW_none,errW_some]<;>rfl)|(simp[*,errW_none,errW_some]<;>rfl),by(with_reducible repeat(first|apply Kd.R_alloc|apply Kd.R_drewN|apply Kd.R_drew));exact HO_3.out,by repeat(first|(with_reducible first|exact HB.out|apply below_alloc|apply pw_below_drewN|apply below_drew1)|exact HB.out)⟩
 ·rw[if_neg c2] at H
  exact absurd H (by simp)
end Go.Proofs.YtkplnbjgkhmbcaaGreatDoor.PbytesOf
