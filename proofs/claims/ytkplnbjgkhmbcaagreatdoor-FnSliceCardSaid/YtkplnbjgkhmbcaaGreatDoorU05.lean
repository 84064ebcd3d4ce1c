/- NatCmp NatMul NatMul2 NatMul3 NatMul4 IntO IntQ IntG -/
import Derived.Test.YtkplnbjgkhmbcaaGreatDoorU01
import Derived.Test.YtkplnbjgkhmbcaaGreatDoorU04
import Derived.Lib.SliceRun
import Derived.Deep.QuietTactic
import Derived.Deep.DeepCutAuto
import Derived.BigQuiet
import Derived.Deep.RegionHeld3
import Derived.Outline
import Derived.BigRegion
namespace Go.Proofs.YtkplnbjgkhmbcaaGreatDoor
open Go.RowKit Go.Proofs.YtkplnbjgkhmbcaaGreatDoorW.PrintWords Go.Proofs.YtkplnbjgkhmbcaaGreatDoorW.PrintLast Go.Proofs.YtkplnbjgkhmbcaaGreatDoorW.PrintMore Go.Proofs.YtkplnbjgkhmbcaaGreatDoor.PFnCompare Go.Proofs.YtkplnbjgkhmbcaaGreatDoor.PCmp Go.Proofs.YtkplnbjgkhmbcaaGreatDoor.PbytesOf
set_option linter.unusedVariables false
theorem words_take {l:List Int} (h:Words l) (n:Nat):Words (l.take n):=fun x hx=>h x (List.mem_of_mem_take hx)
theorem top_digit (a b x y P:Int) (ha:0≤a) (ha1:a<P) (hb:0≤b) (hb1:b<P) (h:x<y):a+P*x-(b+P*y)<0:=by
 have:P*x+P≤P*y:=by
  have h1:P*(x+1)≤P*y:=Int.mul_le_mul_of_nonneg_left (by omega) (by omega)
  rw[Int.mul_add,Int.mul_one] at h1;exact h1
 omega
theorem cmp_step (x y:List Int) (i:Nat) (h1:i+1<x.length) (h2:i+1<y.length) (he:x[i+1]=y[i+1]):sgn (leN (x.take (i+1+1))-leN (y.take (i+1+1)))=sgn (leN (x.take (i+1))-leN (y.take (i+1))):=by
 rw[leN_take_succ x (i+1) h1,leN_take_succ y (i+1) h2,he]
 congr 1;omega
theorem cmp_end (x y:List Int) (hx:Words x) (hy:Words y) (i:Nat) (h1:i<x.length) (h2:i<y.length) (h:i=0∨x[i]≠y[i]):sgn (leN (x.take (i+1))-leN (y.take (i+1)))=if x[i]<y[i] then-1 else if y[i]<x[i] then 1 else 0:=by
 have ha:=leN_bd _ (words_take hx i)
 have hb:=leN_bd _ (words_take hy i)
 rw[List.length_take,Nat.min_eq_left (by omega)] at ha hb
 rw[leN_take_succ x i h1,leN_take_succ y i h2]
 by_cases hlt:x[i]<y[i]
 ·rw[if_pos hlt]
  have:=top_digit _ _ _ _ _ ha.1 ha.2 hb.1 hb.2 hlt
  unfold sgn;rw[if_pos this]
 ·rw[if_neg hlt]
  by_cases hgt:y[i]<x[i]
  ·rw[if_pos hgt]
   have:=top_digit _ _ _ _ _ hb.1 hb.2 ha.1 ha.2 hgt
   unfold sgn;rw[if_neg (by omega),if_neg (by omega)]
  ·rw[if_neg hgt]
   have he:x[i]=y[i]:=by omega
   have h0:i=0:=by rcases h with h|h;exact h;exact absurd he h
   subst h0
   simp only[List.take_zero,leN_nil,Int.pow_zero,Int.one_mul,Int.zero_add,he]
   unfold sgn;rw[if_neg (by omega),if_pos (by omega)]
theorem wpow_le (a b:Nat) (h:a≤b):(18446744073709551616:Int)^a≤18446744073709551616^b:=by
 obtain⟨c,rfl⟩: ∃c,b=a+c:=⟨b-a,by omega⟩
 rw[Int.pow_add]
 have:=wpos a
 have h2:=wpos c
 have:(18446744073709551616:Int)^a*1≤18446744073709551616^a*18446744073709551616^c:=Int.mul_le_mul_of_nonneg_left (by omega) (by omega)
 omega
theorem leN_longer (x y:List Int) (hx:Words x) (hy:Words y) (ty:Top y) (h:x.length<y.length):leN x<leN y:=by
 have h1:=(leN_bd x hx).2
 have h2:=leN_top y hy ty (by intro e;rw[e] at h;simp at h)
 have h3:=wpow_le x.length (y.length-1) (by omega)
 omega
set_option maxRecDepth 100000 in
set_option maxHeartbeats 1000000 in
theorem natCmp_c (B1 B2:Nat) (v1 v2:Value) (x y:List Int) (w:World) (h1:Sl .u64 B1 w v1 x) (h2:Sl .u64 B2 w v2 y) (hx:Words x) (hy:Words y) (tx:Top x) (ty:Top y) (hn:x.length<140737488355328) (hm:y.length<140737488355328):
    Calls Tryz.prog 137 #[v1,v2] w fun e w'=>e= .returned (.int .i64 (sgn (leN x-leN y)))∧ ∃n,w'=w.drewN n:=by
  obtain⟨A,c,rfl,_,_,k1⟩:=h1
  obtain⟨A2,c2,rfl,_,_,k2⟩:=h2
  have HK:=Lib.hid (And.intro k1 k2)
  clear k1 k2
  obtain⟨r,hr⟩: ∃r,sgn (leN x-leN y)=r:=⟨_,rfl⟩
  rw[hr]
  by_cases hl:x.length=y.length
  · rcases Nat.eq_zero_or_pos x.length with h0|h0
    · have e1:x=[]:=List.eq_nil_of_length_eq_zero h0
      have e2:y=[]:=List.eq_nil_of_length_eq_zero (by omega)
      subst e1;subst e2
      have hr0:r=0:=by rw[←hr];simp[leN,sgn]
      subst hr0
      go_enter Tryz.func137,Tryz.ntmps137
      go_wp2
      go_ret
      exact⟨rfl,0,rfl⟩
    · have d1:((x.length:Int) !=(y.length:Int))=false:=by simp[hl]
      have d2:((x.length:Int)==0)=false:=beq_eq_false_iff_ne.2 (by omega)
      have hwi:IntKind.i64.wrap ((x.length:Int)-1)=(x.length:Int)-1:=IntWalk.i64_in _ (by omega)
      have HR:Hid (r=sgn (leN (x.take (x.length-1+1))-leN (y.take (x.length-1+1)))):=Lib.hid (by rw[show x.length-1+1=x.length from by omega,List.take_length,hl,List.take_length];exact hr.symm)
      have HW:=Lib.hid (And.intro hx hy)
      have HL:=Lib.hid hl
      clear hx hy tx ty hr hl
      go_enter Tryz.func137,Tryz.ntmps137
      go_wp2_with fail
      go_loopw [7] (fun v wr=> ∃i:Nat,i<x.length∧v= .int .i64 (i:Int)∧Hid (r=sgn (leN (x.take (i+1))-leN (y.take (i+1))))∧Hid (∃n,wr=w.drewN n)) (fun v _=>(intOf v).toNat)
      case atStart=>exact⟨x.length-1,by omega,by rw[show((x.length-1:Nat):Int)=(x.length:Int)-1 by omega],HR,Lib.hid ⟨0,rfl⟩⟩
      case round=>
        obtain⟨i,hi,rfl,HQ,HN⟩:=hrel
        obtain⟨nw,rfl⟩:=HN.out
        have hi2:i<y.length:=by have:=HL.out;omega
        obtain⟨M1,o1,rfl,_,l1,r1⟩:=HK.out.1 (fun e=>by rw[e] at hi;simp at hi)
        obtain⟨M2,o2,rfl,_,l2,r2⟩:=HK.out.2 (fun e=>by rw[e] at hi2;simp at hi2)
        have q1:w.cell? ⟨M1,o1+i,none⟩=some (.int .u64 x[i]):=r1 i hi
        have q2:w.cell? ⟨M2,o2+i,none⟩=some (.int .u64 y[i]):=r2 i hi2
        have HQ2:=Lib.hid (fun h=>HQ.out.trans (cmp_end x y HW.out.1 HW.out.2 i hi hi2 h))
        have HQ3:Hid (∀j (h:i=j+1),x[i]=y[i]→r=sgn (leN (x.take (j+1))-leN (y.take (j+1)))):=Lib.hid fun j h he=>by
          subst h
          exact HQ.out.trans (cmp_step x y j hi hi2 he)
        obtain⟨a,ha⟩: ∃a,x[i]=a:=⟨_,rfl⟩
        obtain⟨b,hb⟩: ∃b,y[i]=b:=⟨_,rfl⟩
        rw[ha,hb] at HQ2 HQ3
        rw[ha] at q1
        rw[hb] at q2
        clear ha hb r1 r2 HQ
        have key:(i=0∨(0<i∧a≠b))∨(0<i∧a=b):=by omega
        rcases key with hz|⟨hz,he⟩
        · have HZ:=Lib.hid (HQ2.out (hz.imp id And.right))
          have hcs:a<b∨(¬a<b∧b<a)∨(¬a<b∧ ¬b<a):=by omega
          rcases hcs with e1|⟨e1,e2⟩|⟨e1,e2⟩
          all_goals
            rcases hz with rfl|⟨hz,hne⟩
            all_goals
              first|(have dne:(a==b)=false:=beq_eq_false_iff_ne.2 hne;have hp:(0:Int)<i:=by omega)|(have q3:w.cell? ⟨M1,o1,none⟩=some (.int .u64 a):=q1;have q4:w.cell? ⟨M2,o2,none⟩=some (.int .u64 b):=q2;clear q1 q2)
              first|(rw[if_pos e1] at HZ)|(rw[if_neg e1,if_pos e2] at HZ)|(rw[if_neg e1,if_neg e2] at HZ)
              clear HQ2 HQ3
              go_wp2_with fail
              go_quiet (fail)
              go_wp2_with fail
              go_quiet (fail)
              go_wp2_with fail
              (try(go_quiet (fail);go_wp2_with fail))
              all_goals
                go_ret
                exact⟨by rw[HZ.out];rfl,by simp only[World.drewN_drewN];exact⟨_,rfl⟩⟩
        · subst he
          have HZ:=Lib.hid (fun j h=>HQ3.out j h rfl)
          have hp:(0:Int)<i:=by omega
          have hwi2:IntKind.i64.wrap ((i:Int)-1)=(i:Int)-1:=IntWalk.i64_in _ (by omega)
          have dne:(a==a)=true:=by simp
          clear HQ2 HQ3
          go_wp2_with fail
          go_quiet (fail)
          go_wp2_with fail
          go_roundw
          case rel=>exact⟨i-1,by omega,by rw[show((i-1:Nat):Int)=(i:Int)-1 by omega],Lib.hid (HZ.out (i-1) (by omega)),Lib.hid ⟨_,rfl⟩⟩
          case measure=>simp[intOf];omega
  · have d1:((x.length:Int) !=(y.length:Int))=true:=by simp;omega
    by_cases h:x.length<y.length
    · have hr0:r= -1:=by
        rw[←hr]
        have:=leN_longer x y hx hy ty h
        unfold sgn;rw[if_pos (by omega)]
      subst hr0
      go_enter Tryz.func137,Tryz.ntmps137
      go_wp2
      go_ret
      exact⟨rfl,0,rfl⟩
    · have hr0:r=1:=by
        rw[←hr]
        have:=leN_longer y x hy hx tx (by omega)
        unfold sgn;rw[if_neg (by omega),if_neg (by omega)]
      subst hr0
      go_enter Tryz.func137,Tryz.ntmps137
      go_wp2
      go_ret
      exact⟨rfl,0,rfl⟩
end Go.Proofs.YtkplnbjgkhmbcaaGreatDoor
namespace Go.Proofs.YtkplnbjgkhmbcaaGreatDoor
open Go.RowKit Go.Shelf
set_option linter.unusedVariables false
set_option linter.unusedSimpArgs false
set_option maxRecDepth 100000 in
set_option maxHeartbeats 2000000 in
theorem mulAddVWW_g_c (g b o c1 c:Nat) (xs zs:List Int) (y r:Int) (w:World) (hz:xs.length≤zs.length) (hzw:Words zs) (hr:IRow .u64 w g zs) (hx:Words xs) (hmax:xs.length≤4398046511104)
 (hcell: ∀j (h:j<xs.length),w.cell? ⟨b,o+j,none⟩=some (.int .u64 xs[j])) (hb:b<g) (hy:0≤y∧y<18446744073709551616) (hr0:0≤r∧r<18446744073709551616):
 Calls Tryz.prog 211 #[.slice (some ⟨g,0,none⟩) xs.length c1, .slice (some ⟨b,o,none⟩) xs.length c, .int .u64 y, .int .u64 r] w fun e w'=>
  ∃D cc,e= .returned (.int .u64 cc)∧WM xs y r zs.length xs.length D cc∧IRow .u64 w' g D∧Below g w w':=by
 have HM:=Lib.hid (fun x c w hx hc=>mulAddWWW_c x y c w hx hy hc)
 have H0:=Lib.hid (wm_start xs y r zs.length zs rfl hzw hr0.1 hr0.2)
 have HC:=Lib.hid hcell
 have HW:=Lib.hid hx
 have HR:=Lib.hid hr
 have HY:=Lib.hid (And.intro hy hz)
 clear hcell hx hr hzw hr0 hy hz
 go_enter Tryz.func211,Tryz.ntmps211
 go_wp2
 go_loopw [8,19] (fun a d wr=> ∃(j:Nat) (D:List Int) (cc:Int),j≤xs.length∧d= .int .i64 (j:Int)∧a= .int .u64 cc∧Hid (WM xs y r zs.length j D cc)∧Hid (IRow .u64 wr g D)∧Hid (Below g w wr)) (fun _ d _=>xs.length-(intOf d).toNat)
 case atStart=>exact⟨0,zs,r,Nat.zero_le _,rfl,rfl,H0,HR,Below.refl _ _⟩
 case round=>
  obtain⟨j,D,cc,hj,rfl,rfl,HWM,HD,HB⟩:=hrel
  by_cases hlt:j<xs.length
  ·have hjD:j<D.length:=by have:=HWM.out.len;have:=HY.out.2;omega
   have hxj:=(HB.out.cell (p:=⟨b,o+j,none⟩) hb).trans (HC.out j hlt)
   have hstep:=wm_step HWM.out HW.out HY.out.1 hlt (by have:=HY.out.2;omega)
   have HE:=Lib.hid (HM.out xs[j] cc wr (HW.out _ (List.getElem_mem hlt)) ⟨HWM.out.c0,HWM.out.c1⟩)
   have HS:=Lib.hid hstep.2.2
   clear hstep
   generalize (xs[j]*y+cc)/18446744073709551616=q at HE HS
   generalize (xs[j]*y+cc)%18446744073709551616=m at HE HS
   generalize xs[j]=xj at hxj HE
   obtain⟨q1,q2,q3,q4⟩:=irow_step (v:=m) HD.out hjD HB.out (Nat.le_refl _)
   have Q3:=Lib.hid q3
   have Q4:=Lib.hid q4
   clear q3 q4
   go_wp2_with (go_at_call 229;with_reducible refine HE.out.mono ?_;rintro e w2 ⟨rfl,rfl⟩)
   go_roundw
   case rel=>exact⟨j+1,_,q,by omega,by go_num,rfl,HS,Q3,Q4⟩
   case measure=>simp[intOf];omega
  ·have hje:j=xs.length:=by omega
   go_wp2
   go_ret
   exact⟨D,cc,rfl,by rw[←hje];exact HWM.out,HD.out,HB.out⟩
set_option maxRecDepth 100000 in
theorem mulAddVWW_c (g b o c1 c:Nat) (xs zs:List Int) (y r:Int) (w:World) (hz:xs.length≤zs.length) (hzw:Words zs) (hr:IRow .u64 w g zs) (hx:Words xs) (hmax:xs.length≤4398046511104)
 (hcell: ∀j (h:j<xs.length),w.cell? ⟨b,o+j,none⟩=some (.int .u64 xs[j])) (hb:b<g) (hy:0≤y∧y<18446744073709551616) (hr0:0≤r∧r<18446744073709551616):
 Calls Tryz.prog 184 #[.slice (some ⟨g,0,none⟩) xs.length c1, .slice (some ⟨b,o,none⟩) xs.length c, .int .u64 y, .int .u64 r] w fun e w'=>
  ∃D cc,e= .returned (.int .u64 cc)∧WM xs y r zs.length xs.length D cc∧IRow .u64 w' g D∧Below g w w':=by
 have HC:=Lib.hid (mulAddVWW_g_c g b o c1 c xs zs y r w hz hzw hr hx hmax hcell hb hy hr0)
 clear hcell hx hr hzw hr0 hy hz
 go_enter Tryz.func184,Tryz.ntmps184
 go_wp2_with (go_at_call 211;with_reducible refine HC.out.mono ?_;rintro e w2 ⟨D,cc,rfl,h1,h2,h3⟩;have H1:=Lib.hid h1;have H2:=Lib.hid h2;have H3:=Lib.hid h3;clear h1 h2 h3)
 go_ret
 exact⟨D,cc,rfl,H1.out,H2.out,H3.out⟩
theorem wm_end {xs D:List Int} {y r cc:Int} (h:WM xs y r (xs.length+1) xs.length D cc):leN (D.set xs.length cc)=leN xs*y+r∧Words (D.set xs.length cc):=by
 have hl:=h.len
 have hlt:xs.length<D.length:=by omega
 have hn:=h.num
 refine⟨?_,words_set _ _ _ h.words h.c0 h.c1⟩
 have e:(D.set xs.length cc).take (xs.length+1)=D.set xs.length cc:=List.take_of_length_le (by simp;omega)
 rw[←e,leN_take_succ _ xs.length (by simpa using hlt),List.getElem_set_self,List.take_set_of_le (Nat.le_refl _)]
 rw[List.take_length] at hn
 exact hn
set_option maxRecDepth 100000 in
theorem mulAddWW_c (B:Nat) (v:Value) (xs:List Int) (y:Int) (w:World) (h:Sl .u64 B w v xs) (hne:xs≠[]) (hx:Words xs) (hmax:xs.length≤1000000) (hy:0<y∧y<18446744073709551616):
 Calls Tryz.prog 163 #[.slice none 0 0,v, .int .u64 y, .int .u64 0] w fun e w'=> ∃u ys,e= .returned u∧Sl .u64 w.heap.size w' u ys∧Words ys∧Top ys∧leN ys=leN xs*y∧ys.length≤xs.length+1∧Below w.heap.size w w':=by
 have hy0:(y==0)=false:=by simp;omega
 have hl0:((xs.length:Int)==0)=false:=by
  have:=List.length_pos_iff.2 hne
  simp;omega
 obtain⟨A,c,rfl,k1,k2,k3⟩:=h
 obtain⟨b,o,rfl,hB,hlt,hc⟩:=k3 hne
 have HMk:=Lib.hid (fun w=>make_nil (xs.length+1) w (by omega) (by omega))
 have HV:=Lib.hid (fun(c1:Nat) (w1:World) (hb1:Below w.heap.size w w1) (hr1:IRow .u64 w1 w.heap.size (List.replicate (xs.length+1) 0))=>mulAddVWW_c w.heap.size b o c1 c xs _ y 0 w1 (by simp) (words_zeros _) hr1 hx (by omega) (fun j hj=>(hb1.cell (p:=⟨b,o+j,none⟩) hlt).trans (hc j hj)) hlt ⟨by omega,hy.2⟩ ⟨by omega,by omega⟩)
 simp only[List.length_replicate] at HV
 clear hc hy k3 k2 hx hne
 have E1:Hid (((xs.length:Int)+1)=((xs.length+1:Nat):Int)):=Lib.hid (by omega)
 go_enter Tryz.func163,Tryz.ntmps163
 go_wp2_with (first
  |(go_at_call 161;rw[E1.out];with_reducible refine(HMk.out _).mono ?_;rintro e w1 ⟨c1,rfl,hc1,hc2,hr1,hb1,hz1⟩;have HC1:=Lib.hid (And.intro hc1 hc2);have hq1:xs.length≤c1:=(by omega);have HR1:=Lib.hid hr1;have HB1:=Lib.hid hb1;have hlt1:w.heap.size<w1.heap.size:=(by rw[hz1];exact Nat.lt_succ_self _);clear hr1 hb1 hz1 hc1 hc2)
  |(go_at_call 184;with_reducible refine(HV.out _ _ HB1.out HR1.out).mono ?_;rintro e w2 ⟨D,cc,rfl,hD1,hD2,hb2⟩;have HD:=Lib.hid (wm_end hD1);have HDl:=Lib.hid hD1.len;have hjD:xs.length<D.length:=(by rw[hD1.len];exact Nat.lt_succ_self _);obtain⟨q1,q2,q3,q4⟩:=irow_step (v:=cc) hD2 hjD (HB1.out.trans hb2) (Nat.le_refl _);have Q3:=Lib.hid q3;have Q4:=Lib.hid q4;have HL2:=Lib.hid (Nat.lt_of_lt_of_le hlt1 hb2.size);clear hD1 hD2 hb2 q3 q4)
  |(go_at_call 166;rw[E1.out];refine(norm_own _ (xs.length+1) _ _ _ (by rw[List.length_set];exact HDl.out) HC1.out.1 (by have:=HC1.out.2;omega) Q3.out (by have:=HL2.out;simpa using this) HD.out.2).mono ?_;rintro e w3 ⟨rfl,i,ys,rfl,y1,y2,y3,y4,y5,y6⟩;have Y:=Lib.hid (And.intro y1 (And.intro y2 (And.intro y3 (And.intro y4 (And.intro y5 y6)))));clear y1 y2 y3 y4 y5 y6))
 go_ret
 obtain⟨y1,y2,y3,y4,y5,y6⟩:=Y.out
 exact⟨_,ys,rfl,y1,y2,y3,by rw[y4,HD.out.1,Int.add_zero],by omega,Q4.out⟩
end Go.Proofs.YtkplnbjgkhmbcaaGreatDoor
namespace Go.Proofs.YtkplnbjgkhmbcaaGreatDoor
open Go.RowKit Go.Shelf Go.Proofs.YtkplnbjgkhmbcaaGreatDoorW.PrintWords Go.Proofs.YtkplnbjgkhmbcaaGreatDoorW.PrintLast Go.Proofs.YtkplnbjgkhmbcaaGreatDoorW.PrintMore
set_option linter.unusedVariables false
set_option linter.unusedSimpArgs false
theorem two_digs (t c W:Int) (hW:W=18446744073709551616) (h0:0≤t) (hc0:0≤c) (hc1:c<W) (h:t+c<W*W):
 (t%W+c+0)%W=(t+c)%W∧(t%W+c+0)/W+t/W=(t+c)/W:=by
 subst hW;omega
set_option maxRecDepth 100000 in
set_option maxHeartbeats 4000000 in
theorem addMulVVWW_g_c (g b o c1 c2 c i:Nat) (xs D0:List Int) (d:Int) (w:World) (hi:i+xs.length≤D0.length) (hw0:Words D0) (hr:IRow .u64 w g D0) (hx:Words xs) (hmax:xs.length≤1000000) (hmi:i≤1000000)
 (hcell: ∀j (h:j<xs.length),w.cell? ⟨b,o+j,none⟩=some (.int .u64 xs[j])) (hb:b<g) (hd:0≤d∧d<18446744073709551616):
 Calls Tryz.prog 212 #[.slice (some ⟨g,i,none⟩) xs.length c1, .slice (some ⟨g,i,none⟩) xs.length c2, .slice (some ⟨b,o,none⟩) xs.length c, .int .u64 d, .int .u64 0] w fun e w'=>
  ∃D cc,e= .returned (.int .u64 cc)∧AM xs D0 i d xs.length D cc∧IRow .u64 w' g D∧Below g w w':=by
 have HM:=Lib.hid (fun x z w hx hz=>mulAddWWW_c x d z w hx hd hz)
 have H0:=Lib.hid (am_start xs D0 i d hw0)
 have HC:=Lib.hid hcell
 have HW:=Lib.hid hx
 have HR:=Lib.hid hr
 have HY:=Lib.hid (And.intro hd hi)
 have hlen:((xs.length:Int) !=(xs.length:Int))=false:=by simp
 clear hcell hx hr hw0 hd hi
 go_enter Tryz.func212,Tryz.ntmps212
 go_wp2
 go_loopw [10,32] (fun a d2 wr=> ∃(j:Nat) (D:List Int) (cc:Int),j≤xs.length∧d2= .int .i64 (j:Int)∧a= .int .u64 cc∧Hid (AM xs D0 i d j D cc)∧Hid (IRow .u64 wr g D)∧Hid (Below g w wr)) (fun _ d2 _=>xs.length-(intOf d2).toNat)
 case atStart=>exact⟨0,D0,0,Nat.zero_le _,rfl,rfl,H0,HR,Below.refl _ _⟩
 case round=>
  obtain⟨j,D,cc,hj,rfl,rfl,HWM,HD,HB⟩:=hrel
  by_cases hlt:j<xs.length
  ·have hjD:i+j<D.length:=by have:=HWM.out.len;have:=HY.out.2;omega
   have hxj:=(HB.out.cell (p:=⟨b,o+j,none⟩) hb).trans (HC.out j hlt)
   obtain⟨s0,s1,hstep⟩:=am_step HWM.out HW.out HY.out.1 hlt hjD
   have hxw:=HW.out _ (List.getElem_mem hlt)
   have hDw:=HWM.out.words _ (List.getElem_mem hjD)
   have hDj:=HD.out.1 (i+j) hjD
   have ht0:0≤xs[j]*d+D[i+j]:=by
    have:=Int.mul_nonneg hxw.1 HY.out.1.1
    omega
   have hc0:=HWM.out.c0
   have hc1:=HWM.out.c1
   have HE:=Lib.hid (fun W=>HM.out xs[j] D[i+j] W hxw hDw)
   obtain⟨t,ht⟩: ∃t,xs[j]*d+D[i+j]=t:=⟨_,rfl⟩
   rw[ht] at HE hstep ht0 s0 s1
   obtain⟨p1,p2⟩:=two_digs t cc _ rfl ht0 hc0 hc1 (by omega)
   have z0:0≤t%18446744073709551616:=by omega
   have q00:0≤t/18446744073709551616∧t/18446744073709551616≤18446744073709551615:=by omega
   have HA:=Lib.hid (fun W=>add_w (t%18446744073709551616) cc 0 W z0 hc0 (by omega) (by omega))
   have m00:0≤(t+cc)/18446744073709551616∧(t+cc)/18446744073709551616<18446744073709551616:=by omega
   rw[p1] at HA
   clear ht p1 s0 s1 ht0 z0 hc0 hc1
   generalize (t+cc)%18446744073709551616=m at HA hstep
   generalize (t+cc)/18446744073709551616=q at p2 hstep m00
   generalize (t%18446744073709551616+cc+0)/18446744073709551616=q1 at HA p2
   generalize t/18446744073709551616=q2 at HE p2 q00
   generalize t%18446744073709551616=m2 at HE HA
   have hw1:IntKind.u64.wrap (q1+q2)=q:=by rw[p2];exact wrap_same _ m00.1 m00.2
   have HS:=Lib.hid hstep
   clear hstep p2 m00 q00 t
   obtain⟨r1,r2,r3,r4⟩:=irow_step (v:=m) HD.out hjD HB.out (Nat.le_refl _)
   have Q3:=Lib.hid r3
   have Q4:=Lib.hid r4
   have hoj:i+j=i+j:=rfl
   clear r3 r4 hoj
   generalize D[i+j]=dj at hDj HE r1 hDw
   generalize xs[j]=xj at hxj HE hxw
   go_wp2_with fail
   go_quiet ((go_at_call 229;exact Calls.quiet_of_same (HE.out _)))
   go_wp2_with (go_at_call 218;with_reducible refine(HA.out _).mono ?_;rintro e w2 ⟨rfl,rfl⟩)
   go_roundw
   case rel=>exact⟨j+1,_,q,by omega,by go_num,rfl,HS,Q3,Lib.hid ((pw_below_drewN HB.out _).setCell (Nat.le_refl _) _)⟩
   case measure=>simp[intOf];omega
  ·have hje:j=xs.length:=by omega
   go_wp2
   go_ret
   exact⟨D,cc,rfl,by rw[←hje];exact HWM.out,HD.out,HB.out⟩
set_option maxRecDepth 100000 in
theorem addMulVVWW_c (g b o c1 c2 c i:Nat) (xs D0:List Int) (d:Int) (w:World) (hi:i+xs.length≤D0.length) (hw0:Words D0) (hr:IRow .u64 w g D0) (hx:Words xs) (hmax:xs.length≤1000000) (hmi:i≤1000000)
 (hcell: ∀j (h:j<xs.length),w.cell? ⟨b,o+j,none⟩=some (.int .u64 xs[j])) (hb:b<g) (hd:0≤d∧d<18446744073709551616):
 Calls Tryz.prog 185 #[.slice (some ⟨g,i,none⟩) xs.length c1, .slice (some ⟨g,i,none⟩) xs.length c2, .slice (some ⟨b,o,none⟩) xs.length c, .int .u64 d, .int .u64 0] w fun e w'=>
  ∃D cc,e= .returned (.int .u64 cc)∧AM xs D0 i d xs.length D cc∧IRow .u64 w' g D∧Below g w w':=by
 have HC:=Lib.hid (addMulVVWW_g_c g b o c1 c2 c i xs D0 d w hi hw0 hr hx hmax hmi hcell hb hd)
 clear hcell hx hr hw0 hd hi
 go_enter Tryz.func185,Tryz.ntmps185
 go_wp2_with (go_at_call 212;with_reducible refine HC.out.mono ?_;rintro e w2 ⟨D,cc,rfl,h1,h2,h3⟩;have H1:=Lib.hid h1;have H2:=Lib.hid h2;have H3:=Lib.hid h3;clear h1 h2 h3)
 go_ret
 exact⟨D,cc,rfl,H1.out,H2.out,H3.out⟩
theorem zeroWord (w:World):(zeroValue 265).run Tryz.prog w= .ok (.int .u64 0) w:=by kernel_rfl
theorem clear_row (w:World) (g n c:Nat) (l:List Int) (hn:0<n) (hl:l.length=n) (hr:IRow .u64 w g l):
 ∃w2,(∀ty:TypeId,(Builtin.clear_ #[194] ty #[.slice (some ⟨g,0,none⟩) n c]).run Tryz.prog w= .ok (.tuple #[]) w2)∧IRow .u64 w2 g (List.replicate n 0)∧(∀B W,B≤g→Below B W w→Below B W w2)∧w2.heap.size=w.heap.size:=by
 have hm:List.replicate n (Value.int .u64 0)=(List.replicate n (0:Int)).map (Value.int .u64):=by simp
 refine⟨w.setCells g 0 (List.replicate n (.int .u64 0)),fun ty=>?_,?_,fun B W hB hb=>below_setCells hB _ _ _ hb,size_setCells _ _ _ _⟩
 ·refine Lib.run_clear_slice w _ 265 ty (.int .u64 0) Tryz.underlying194 zeroWord rfl rfl g 0 n c hn ?_ ?_
  ·intro j hj
   rw[Nat.zero_add,hr.1 j (by omega)];rfl
  ·intro j hj
   rw[Nat.zero_add];exact hr.2 j (by omega)
 ·rw[hm]
  exact irow_setCells hr (by simp[hl])
set_option maxRecDepth 100000 in
set_option maxHeartbeats 4000000 in
theorem basicMul_c (g b o b2 o2 c1 c c2:Nat) (xs ys l0:List Int) (w:World) (hl:l0.length=xs.length+ys.length) (hr:IRow .u64 w g l0) (hx:Words xs) (hy:Words ys) (hxm:xs.length≤100000) (hym:ys.length≤100000) (hx0:0<xs.length)
 (hcx: ∀j (h:j<xs.length),w.cell? ⟨b,o+j,none⟩=some (.int .u64 xs[j])) (hb:b<g)
 (hcy: ∀j (h:j<ys.length),w.cell? ⟨b2,o2+j,none⟩=some (.int .u64 ys[j])) (hb2:b2<g) (hc1:xs.length+ys.length≤c1):
 Calls Tryz.prog 165 #[.slice (some ⟨g,0,none⟩) (xs.length+ys.length) c1, .slice (some ⟨b,o,none⟩) xs.length c, .slice (some ⟨b2,o2,none⟩) ys.length c2] w fun e w'=>
  e= .returned (.tuple #[])∧(∃D,BM xs ys ys.length D∧IRow .u64 w' g D)∧Below g w w':=by
 obtain⟨n,hn⟩: ∃n,xs.length+ys.length=n:=⟨_,rfl⟩
 obtain⟨w2,hcl,hr2,hb2',hs2⟩:=clear_row w g n c1 l0 (by omega) (by omega) hr
 have HR2:=Lib.hid hr2
 have HB2:=Lib.hid (hb2' g w (Nat.le_refl _) (Below.refl _ _))
 rw[hn] at hc1⊢
 have HNN:=Lib.hid hn
 have hni:((xs.length:Int)+(ys.length:Int))=(n:Int):=by omega
 have hn0:(n:Int)≤(c1:Int):=by omega
 have HCX:=Lib.hid hcx
 have HCY:=Lib.hid hcy
 have HW:=Lib.hid (And.intro hx hy)
 clear hr hr2 hb2' hs2 hcx hcy hx hy hl hn
 go_enter Tryz.func165,Tryz.ntmps165
 go_wp2
 go_loopw [17] (fun d wr=> ∃(i:Nat) (D:List Int),i≤ys.length∧d= .int .i64 (i:Int)∧Hid (BM xs ys i D)∧Hid (IRow .u64 wr g D)∧Hid (Below g w wr)) (fun d _=>ys.length-(intOf d).toNat)
 case atStart=>exact⟨0,_,Nat.zero_le _,rfl,Lib.hid (by rw[←HNN.out];exact bm_start xs ys),HR2,HB2⟩
 case round=>
  obtain⟨i,D,hi,rfl,HBM,HD,HB⟩:=hrel
  by_cases hlt:i<ys.length
  ·have hyi:=(HB.out.cell (p:=⟨b2,o2+i,none⟩) hb2).trans (HCY.out i hlt)
   have hyw:=HW.out.2 _ (List.getElem_mem hlt)
   by_cases hz:ys[i]=0
   ·have HS:=Lib.hid (bm_skip HBM.out hlt hz)
    have hzb:(ys[i] !=0)=false:=by simp[hz]
    generalize ys[i]=d at hyi hzb
    clear hz
    go_wp2
    go_roundw
    case rel=>exact⟨i+1,D,by omega,by go_num,HS,HD,HB⟩
    case measure=>simp[intOf];omega
   ·have hzb:(ys[i] !=0)=true:=by simp[hz]
    have hDl:=HBM.out.len
    have HAM:=Lib.hid (fun c3 c4 W (hB:Below g w W) (hD:IRow .u64 W g D)=>addMulVVWW_c g b o c3 c4 c i xs D ys[i] W (by omega) HBM.out.words hD HW.out.1 (by omega) (by omega) (fun j hj=>(hB.cell (p:=⟨b,o+j,none⟩) hb).trans (HCX.out j hj)) hb hyw)
    have HST:=Lib.hid (fun D' cc (h:AM xs D i ys[i] xs.length D' cc)=>bm_step HBM.out hlt h)
    obtain⟨k,hk⟩: ∃k,xs.length+i=k:=⟨_,rfl⟩
    have hkl:i≤k∧k<n:=by have:=HNN.out;omega
    have HK:=Lib.hid (And.intro hk hkl)
    have k1:(xs.length:Int)+(i:Int)=(k:Int):=by omega
    have k2:(i:Int)+(xs.length:Int)=(k:Int):=by omega
    have k3:(i:Int)≤(k:Int):=by omega
    have k4:(k:Int)≤(c1:Int):=by omega
    have k5:(k:Int)<(n:Int):=by omega
    have k6:k-i=xs.length:=by omega
    have k7: ¬c1=i:=by omega
    have k8:IntKind.i64.wrap (k:Int)=(k:Int):=IntWalk.i64_in _ (by omega)
    have k9:IntKind.i64.wrap ((xs.length:Int)+(i:Int))=(k:Int):=by rw[k1];exact k8
    have k10:IntKind.i64.wrap ((i:Int)+(xs.length:Int))=(k:Int):=by rw[k2];exact k8
    have k11:(0:Int)≤(i:Int):=by omega
    have k12:(0:Int)≤(k:Int):=by omega
    rw[hk] at HST
    generalize ys[i]=d at hyi hzb HAM HST hyw
    have HDL:=Lib.hid hDl
    clear hz hk hkl hDl
    go_wp2_with fail
    go_region_with (go_at_call 185;with_reducible refine(HAM.out _ _ _ HB.out.drew HD.out.drew).mono ?_;rintro e w3 ⟨D',cc,rfl,h1,h2,h3⟩;have HS:=Lib.hid (HST.out D' cc h1);have hkD:k<D'.length:=(by have:=h1.len;have:=HDL.out;have:=HNN.out;have:=HK.out.2;omega);obtain⟨q1,q2,q3,q4⟩:=irow_step (v:=cc) h2 hkD (HB.out.drew.trans h3) (Nat.le_refl _);have Q3:=Lib.hid q3;have Q4:=Lib.hid q4;clear h1 h2 h3 q3 q4)
    all_goals go_wp2_with fail
    all_goals go_roundw
    case rel=>exact⟨i+1,_,by omega,by go_num,HS,Q3,Q4⟩
    case measure=>simp[intOf];omega
  ·have hie:i=ys.length:=by omega
   subst hie
   go_wp2
   go_end0
   exact⟨rfl,⟨D,HBM.out,HD.out⟩,HB.out⟩
set_option maxRecDepth 100000 in
theorem alias_c (A:Option Addr) (n c:Nat) (w:World):Calls Tryz.prog 164 #[.slice none 0 0, .slice A n c] w fun e w'=>e= .returned (.bool false)∧ ∃k,w'=w.drewN k:=by
 go_enter Tryz.func164,Tryz.ntmps164
 go_wp2
 go_quiet (fail)
 go_wp2
 go_ret
 exact⟨rfl,_,rfl⟩
def Thr (w:World):Prop:=w.cell? ⟨2,0,none⟩=some (.int .i64 40)
theorem Thr.below {w w':World} (h:Thr w) (hb:Below w.heap.size w w'):Thr w':=(hb.cell (p:=⟨2,0,none⟩) (lt_of_cell h)).trans h
set_option maxRecDepth 100000 in
set_option maxHeartbeats 4000000 in
theorem mulGe_c (B1 B2:Nat) (v1 v2:Value) (xs ys:List Int) (p:Option Addr) (w:World) (h1:Sl .u64 B1 w v1 xs) (h2:Sl .u64 B2 w v2 ys) (hx:Words xs) (hy:Words ys) (tx:Top xs) (ty:Top ys) (hge:ys.length≤xs.length) (h0:0<ys.length) (hys:ys.length<40) (hxs:xs.length≤10000) (hk:Thr w):
    Calls Tryz.prog 136 #[.slice none 0 0, .pointer p,v1,v2] w fun e w'=> ∃u zs,e= .returned u∧Sl .u64 w.heap.size w' u zs∧Words zs∧Top zs∧leN zs=leN xs*leN ys∧zs.length≤xs.length+ys.length∧Below w.heap.size w w':=by
  have hm0:((xs.length:Int)==0)=false:=beq_eq_false_iff_ne.2 (by omega)
  have hn0:((ys.length:Int)==0)=false:=beq_eq_false_iff_ne.2 (by omega)
  have hlt: ¬xs.length<ys.length:=by omega
  by_cases hone:ys.length=1
  · obtain⟨y,rfl,hy0,hy1⟩: ∃y,ys=[y]∧0<y∧y<18446744073709551616:=by
      match ys,hone with
      |[y],_=>
        have a:=hy y (List.mem_cons_self)
        have b:=ty (by simp)
        simp at b
        exact⟨y,rfl,by omega,a.2⟩
    have hxne:xs≠[]:=fun e=>by subst e;simp at hge
    have HC:=Lib.hid (mulAddWW_c B1 v1 xs y w h1 hxne hx (by omega) ⟨hy0,hy1⟩)
    obtain⟨A1,c1,rfl,l1,_⟩:=h1.c
    obtain⟨A2,c2,rfl,k1,k2,k3⟩:=h2
    obtain⟨b,o,rfl,hB,hbl,hc⟩:=k3 (by simp)
    have x0:w.cell? ⟨b,o,none⟩=some (.int .u64 y):=by simpa using hc 0 (by simp)
    simp only[List.length_singleton] at hn0 hlt k1
    have hl1:(xs.length:Int)≤10000:=by omega
    have hx1:(1:Nat)≤xs.length:=by omega
    clear h1 hc k3 k2 hx hy tx ty hge h0 hys hone hk
    go_enter Tryz.func136,Tryz.ntmps136
    go_wp2_with (go_at_call 163;with_reducible refine HC.out.mono ?_;rintro e w1 ⟨u,zs,rfl,g1,g2,g3,g4,g5,g6⟩;have HG:=Lib.hid (And.intro g1 (And.intro g2 (And.intro g3 (And.intro g4 (And.intro g5 g6)))));clear g1 g2 g3 g4 g5 g6)
    go_ret
    obtain⟨g1,g2,g3,g4,g5,g6⟩:=HG.out
    exact⟨_,zs,rfl,g1,g2,g3,by rw[g4];simp[leN],g5,g6⟩
  · have hn1:((ys.length:Int)==1)=false:=beq_eq_false_iff_ne.2 (by omega)
    have HA:=Lib.hid (fun A n c w=>alias_c A n c w)
    have hxne:xs≠[]:=fun e=>by subst e;simp only[List.length_nil] at hge;omega
    have hyne:ys≠[]:=fun e=>by subst e;simp at h0
    obtain⟨A1,c1,rfl,l1,l2,l3⟩:=h1
    obtain⟨b,o,rfl,hB,hbl,hcx⟩:=l3 hxne
    obtain⟨A2,c2,rfl,k1,k2,k3⟩:=h2
    obtain⟨b2,o2,rfl,hB2,hbl2,hcy⟩:=k3 hyne
    obtain⟨n,hn⟩: ∃n,xs.length+ys.length=n:=⟨_,rfl⟩
    have hni:(xs.length:Int)+(ys.length:Int)=(n:Int):=by omega
    have HMk:Hid (∀k,Calls Tryz.prog 161 #[.slice none 0 0, .int .i64 n] (w.drewN k) fun e w'=> ∃c,e= .returned (.slice (some ⟨w.heap.size,0,none⟩) n c)∧n≤c∧c≤n+4∧IRow .u64 w' w.heap.size (List.replicate n 0)∧Below w.heap.size w w'∧w.heap.size<w'.heap.size):=Lib.hid fun k=>(make_nil n (w.drewN k) (by omega) (by omega)).mono fun e w' ⟨c,h1,h2,h3,h4,h5,h6⟩=>⟨c,h1,h2,h3,h4,(pw_below_drewN (Below.refl _ _) k).trans h5,by rw[h6];exact Nat.lt_succ_self _⟩
    have HBM:=Lib.hid (fun(w1:World) (cc:Nat) (hb1:Below w.heap.size w w1) (hr:IRow .u64 w1 w.heap.size (List.replicate n 0)) (hcc:n≤cc)=>basicMul_c w.heap.size b o b2 o2 cc c1 c2 xs ys (List.replicate n 0) w1 (by simp[hn]) hr hx hy (by omega) (by omega) (by omega) (fun j hj=>(hb1.cell (p:=⟨b,o+j,none⟩) hbl).trans (hcx j hj)) hbl (fun j hj=>(hb1.cell (p:=⟨b2,o2+j,none⟩) hbl2).trans (hcy j hj)) hbl2 (by omega))
    rw[hn] at HBM
    have HN:=Lib.hid (And.intro hn (And.intro hge hys))
    have hys':(ys.length:Int)<40:=by omega
    have hT:=hk
    unfold Thr at hT
    have HK:=Lib.hid hk
    clear hcx hcy l3 k3 hx hy tx ty hn hge h0 hys hone hk
    go_enter Tryz.func136,Tryz.ntmps136
    have HT:=Lib.hid (fun w1 (hb1:Below w.heap.size w w1)=>(hb1.cell (p:=⟨2,0,none⟩) (lt_of_cell hT)).trans hT)
    clear hT
    go_wp2_with (first
      |(go_at_call 164;with_reducible refine(HA.out _ _ _ _).mono ?_;rintro e w1 ⟨rfl,k,rfl⟩)
      |(go_at_call 161;with_reducible refine(HMk.out _).mono ?_;rintro e w1 ⟨cc,rfl,hc1,hc2,hr1,hb1,hz1⟩;have HC1:=Lib.hid (And.intro hc1 hc2);have HR1:=Lib.hid hr1;have HB1:=Lib.hid hb1;have HZ1:=Lib.hid hz1;have hT1:=HT.out _ hb1;clear hr1 hb1 hz1 hc1 hc2)
      |(go_at_call 165;with_reducible refine(HBM.out _ _ HB1.out HR1.out HC1.out.1).mono ?_;rintro e w2 ⟨rfl,⟨D,hD1,hD2⟩,hb2⟩;have HD:=Lib.hid (And.intro (bm_end hD1) (And.intro hD1.words hD1.len));have HD2:=Lib.hid hD2;have HB2:=Lib.hid (HB1.out.trans hb2);have HL2:=Lib.hid (Nat.lt_of_lt_of_le HZ1.out hb2.size);clear hD1 hD2 hb2)
      |(go_at_call 166;with_reducible refine(norm_own _ n _ D _ (HD.out.2.2.trans HN.out.1) HC1.out.1 (by have:=HC1.out.2;have:=HN.out;omega) HD2.out HL2.out HD.out.2.1).mono ?_;rintro e w3 ⟨rfl,i,zs,rfl,y1,y2,y3,y4,y5,y6⟩;have Y:=Lib.hid (And.intro y1 (And.intro y2 (And.intro y3 (And.intro y4 (And.intro y5 y6)))));clear y1 y2 y3 y4 y5 y6))
    go_ret
    obtain⟨y1,y2,y3,y4,y5,y6⟩:=Y.out
    exact⟨_,zs,rfl,y1,y2,y3,y4.trans HD.out.1,by have:=HN.out.1;omega,HB2.out⟩
set_option maxRecDepth 100000 in
theorem natMul_c (B1 B2:Nat) (v1 v2:Value) (xs ys:List Int) (p:Option Addr) (w:World) (h1:Sl .u64 B1 w v1 xs) (h2:Sl .u64 B2 w v2 ys) (hx:Words xs) (hy:Words ys) (tx:Top xs) (ty:Top ys) (hxs:xs.length≤10000) (hys:ys.length≤10000) (hmin:xs.length<40∨ys.length<40) (hk:Thr w):
 Calls Tryz.prog 136 #[.slice none 0 0, .pointer p,v1,v2] w fun e w'=> ∃u zs,e= .returned u∧Sl .u64 w.heap.size w' u zs∧Words zs∧Top zs∧leN zs=leN xs*leN ys∧zs.length≤xs.length+ys.length∧Below w.heap.size w w':=by
 by_cases hlt:xs.length<ys.length
 ·by_cases h0:xs=[]
  ·subst h0
   have hy0:0<ys.length:=by simpa using hlt
   have hyb:((ys.length:Int)==0)=false:=beq_eq_false_iff_ne.2 (by omega)
   obtain⟨A1,c1,rfl,l1,_⟩:=h1.c
   obtain⟨A2,c2,rfl,l2,_⟩:=h2.c
   have HS:Hid (Calls Tryz.prog 136 #[.slice none 0 0, .pointer p, .slice A2 ys.length c2, .slice A1 0 c1] w fun e w'=>e= .returned (.slice none 0 0)∧w=w'):=by
    refine Lib.hid ?_
    clear h1 h2 hx hy tx ty hxs hys hmin hk
    go_enter Tryz.func136,Tryz.ntmps136
    go_wp2
    go_ret
    exact⟨rfl,rfl⟩
   clear h1 h2 hx hy tx ty hxs hys hmin hk
   go_enter Tryz.func136,Tryz.ntmps136
   go_wp2_with (go_at_call 136;with_reducible refine HS.out.mono ?_;rintro e w1 ⟨rfl,rfl⟩)
   go_ret
   exact⟨_,[],rfl,Sl.nil,fun _ h=>(by cases h),fun h=>absurd rfl h,by simp[leN],by simp,Below.refl _ _⟩
  ·have hx0:0<xs.length:=List.length_pos_iff.2 h0
   have HC:=Lib.hid (mulGe_c B2 B1 v2 v1 ys xs p w h2 h1 hy hx ty tx (by omega) hx0 (by omega) hys hk)
   obtain⟨A1,c1,rfl,l1,_⟩:=h1.c
   obtain⟨A2,c2,rfl,l2,_⟩:=h2.c
   clear h1 h2 hx hy tx ty hxs hys hmin hk
   go_enter Tryz.func136,Tryz.ntmps136
   go_wp2_with (go_at_call 136;with_reducible refine HC.out.mono ?_;rintro e w1 ⟨u,zs,rfl,g1,g2,g3,g4,g5,g6⟩;have HG:=Lib.hid (And.intro g1 (And.intro g2 (And.intro g3 (And.intro g4 (And.intro g5 g6)))));clear g1 g2 g3 g4 g5 g6)
   go_ret
   obtain⟨g1,g2,g3,g4,g5,g6⟩:=HG.out
   exact⟨_,zs,rfl,g1,g2,g3,by rw[g4,Int.mul_comm],by omega,g6⟩
 ·by_cases h0:ys=[]
  ·subst h0
   obtain⟨A1,c1,rfl,l1,_⟩:=h1.c
   obtain⟨A2,c2,rfl,l2,_⟩:=h2.c
   clear h1 h2 hx hy tx ty hxs hys hmin hk
   by_cases hz:xs.length=0
   ·have hxb:((xs.length:Int)==0)=true:=by simp[hz]
    clear hz
    go_enter Tryz.func136,Tryz.ntmps136
    go_wp2
    go_ret
    exact⟨_,[],rfl,Sl.nil,fun _ h=>(by cases h),fun h=>absurd rfl h,by simp[leN],by simp,Below.refl _ _⟩
   ·have hxb:((xs.length:Int)==0)=false:=beq_eq_false_iff_ne.2 (by omega)
    clear hz
    go_enter Tryz.func136,Tryz.ntmps136
    go_wp2
    go_ret
    exact⟨_,[],rfl,Sl.nil,fun _ h=>(by cases h),fun h=>absurd rfl h,by simp[leN],by simp,Below.refl _ _⟩
  ·exact mulGe_c B1 B2 v1 v2 xs ys p w h1 h2 hx hy tx ty (by omega) (List.length_pos_iff.2 h0) (by omega) hxs hk
structure OI (w:World) (g r c:Nat) (neg:Bool) (zs:List Int):Prop where
 blk:w.heap[g]?=some (.cells #[.bool neg, .slice (some ⟨r,0,none⟩) zs.length c] 196 (0,0))
 row:IRow .u64 w r zs
 gr:g<r
 rl:r<w.heap.size
 cap:zs.length≤c
 len:zs.length≤4398046511104
 words:Words zs
 top:Top zs
section
variable {w w':World} {g r c:Nat} {neg:Bool} {zs:List Int}
theorem OI.sl (h:OI w g r c neg zs):Sl .u64 (g+1) w (.slice (some ⟨r,0,none⟩) zs.length c) zs:=
 (h.row.sl' h.rl h.cap (by have:=h.len;omega)).mono h.gr
theorem OI.bi (h:OI w g r c neg zs):BI w g neg (.slice (some ⟨r,0,none⟩) zs.length c) zs:=⟨h.blk,h.sl,h.words,h.top⟩
theorem OI.below (h:OI w g r c neg zs) (hb:Below w.heap.size w w'):OI w' g r c neg zs:=
 ⟨blk_below h.blk hb,h.row.below hb h.rl,h.gr,Nat.lt_of_lt_of_le h.rl hb.size,h.cap,h.len,h.words,h.top⟩
theorem OI.keep {B:Nat} (h:OI w g r c neg zs) (hb:Below B w w') (hr:r<B):OI w' g r c neg zs:=
 ⟨(hb.block g (Nat.lt_trans h.gr hr)).trans h.blk,h.row.below hb hr,h.gr,Nat.lt_of_lt_of_le h.rl hb.size,h.cap,h.len,h.words,h.top⟩
theorem OI.drewN (h:OI w g r c neg zs) (n:Nat):OI (w.drewN n) g r c neg zs:=⟨h.blk,h.row,h.gr,h.rl,h.cap,h.len,h.words,h.top⟩
theorem OI.put (h:OI w g r c neg zs) (b:Bool):OI (w.setCell ⟨g,0,none⟩ (.bool b)) g r c b zs:=
 ⟨blk_put h.blk 0 _ rfl,h.row.setOther _ _ (Nat.ne_of_lt h.gr),h.gr,by simpa [World.setCell] using h.rl,h.cap,h.len,h.words,h.top⟩
end
set_option maxRecDepth 100000 in
theorem natSetO_c (B:Nat) (v:Value) (zs:List Int) (w:World) (h:Sl .u64 B w v zs) (hne:zs≠[]) (hlen:zs.length≤4398046511104):
 Calls Tryz.prog 160 #[.slice none 0 0,v] w fun e w'=> ∃c,e= .returned (.slice (some ⟨w.heap.size,0,none⟩) zs.length c)∧zs.length≤c∧IRow .u64 w' w.heap.size zs∧w.heap.size<w'.heap.size∧Below w.heap.size w w':=by
 have hpos:0<zs.length:=List.length_pos_iff.2 hne
 obtain⟨A,c,rfl,h1,h2,h3⟩:=h
 obtain⟨b,o,rfl,hB,hlt,hc⟩:=h3 hne
 have HC:=Lib.hid hc
 clear hc h3 h2
 go_enter Tryz.func160,Tryz.ntmps160
 go_wp2_with (go_at_call 161;refine(make_nil zs.length _ hpos hlen).mono ?_;rintro e w1 ⟨c1,rfl,hc1,hc2,hr1,hb1,hsz1⟩;obtain⟨w2,hcp,hr2,hb2,hz2⟩:=copy_fresh w1 w.heap.size b o c c1 zs _ (by simp) hr1 (fun j hj=>(hb1.cell (p:=⟨b,o+j,none⟩) hlt).trans (HC.out j hj));have HR:=Lib.hid hr2;have HB:=Lib.hid (hb2 _ _ (Nat.le_refl _) hb1);have HZ:=Lib.hid (And.intro hsz1 hz2);clear hr1 hb1 hr2 hb2 hsz1 hz2)
 go_ret
 exact⟨c1,rfl,hc1,HR.out,by have:=HZ.out;omega,HB.out⟩
set_option maxRecDepth 100000 in
theorem intSetO_c (g o g2:Nat) (neg n0:Bool) (v:Value) (zs:List Int) (w:World) (h:PI w g o neg v zs) (hz:zs≠[]) (hne:g2≠g) (hlen:zs.length≤4398046511104)
 (hk:w.heap[g2]?=some (.cells #[.bool n0, .slice none 0 0] 196 (0,0))):
 Calls Tryz.prog 132 #[.pointer (some ⟨g2,0,none⟩), .pointer (some ⟨g,o,none⟩)] w fun e w'=>e= .returned (.pointer (some ⟨g2,0,none⟩))∧(∃c,OI w' g2 w.heap.size c neg zs)∧Below g2 w w':=by
 obtain⟨cs,ct,hblk,_⟩:=h.blk
 have hpe:=ptr_otherP w g o g2 hne hk hblk
 clear hblk
 have d0:=blk_cell hk 0 _ rfl
 have d1:=blk_cell hk 1 _ rfl
 have g0:=blk_free hk 0
 have g1:=blk_free hk 1
 have hlt2:g2<w.heap.size:=lt_of_cell d0
 have HK:=Lib.hid hk
 clear hk
 have c0:=h.c0
 have c1:=h.c1
 have hlt:=h.lt
 have HC:=Lib.hid (fun w' (hb:Below w.heap.size w w')=>natSetO_c _ v zs w' (h.sl.below hb) hz hlen)
 have HW:=Lib.hid (And.intro h.words h.top)
 obtain⟨A,c,rfl,_⟩:=h.sl.c
 clear h
 have HB0:Hid (Below w.heap.size w w∧w.heap.size=w.heap.size):=⟨Below.refl _ _,rfl⟩
 go_enter Tryz.func132,Tryz.ntmps132
 go_wp2
 go_region_with (go_at_call 160;refine(HC.out _ (by first|exact HB0.out.1|exact HB0.out.1.drew)).mono ?_;rintro e w1 ⟨cc,rfl,hcc,hs1,hl1,hb1⟩;have HS1:=Lib.hid (And.intro hcc (And.intro hs1 hl1));have HB1:Hid (Below w.heap.size w w1):=(by first|exact HB0.out.1.trans hb1|exact HB0.out.1.drew.trans hb1);clear hcc hs1 hl1 hb1;have q0:=(HB1.out.cell (p:=⟨g2,0,none⟩) hlt2).trans d0;have q1:=(HB1.out.cell (p:=⟨g2,1,none⟩) hlt2).trans d1;have r0:=(HB1.out.frozen (p:=⟨g2,0,none⟩) hlt2).trans g0;have r1:=(HB1.out.frozen (p:=⟨g2,1,none⟩) hlt2).trans g1;have p0:=(HB1.out.cell (p:=⟨g,o,none⟩) hlt).trans c0;have p1:=(HB1.out.cell (p:=⟨g,o+1,none⟩) hlt).trans c1)
 all_goals go_wp2
 all_goals go_ret
 all_goals exact⟨rfl,⟨_,⟨blk_put (blk_put ((HB1.out.block g2 hlt2).trans HK.out) 1 _ rfl) 0 _ rfl,(HS1.out.2.1.setOther _ _ (Nat.ne_of_lt hlt2)).setOther _ _ (Nat.ne_of_lt hlt2),hlt2,by have:=HS1.out.2.2;simpa [World.setCell] using this,HS1.out.1,hlen,HW.out.1,HW.out.2⟩⟩,((HB1.out.mono (Nat.le_of_lt hlt2)).setCell (Nat.le_refl _) _).setCell (Nat.le_refl _) _⟩
set_option maxRecDepth 100000 in
theorem intAbsO_c (g o g2:Nat) (neg n0:Bool) (v:Value) (zs:List Int) (w:World) (h:PI w g o neg v zs) (hz:zs≠[]) (hne:g2≠g) (hlen:zs.length≤4398046511104)
 (hk:w.heap[g2]?=some (.cells #[.bool n0, .slice none 0 0] 196 (0,0))):
 Calls Tryz.prog 197 #[.pointer (some ⟨g2,0,none⟩), .pointer (some ⟨g,o,none⟩)] w fun e w'=>e= .returned (.pointer (some ⟨g2,0,none⟩))∧(∃c,OI w' g2 w.heap.size c false zs)∧Below g2 w w':=by
 have HC:=Lib.hid (intSetO_c g o g2 neg n0 v zs w h hz hne hlen hk)
 clear h hk hne hlen
 go_enter Tryz.func197,Tryz.ntmps197
 go_wp2_with (go_at_call 132;refine HC.out.mono ?_;rintro e w1 ⟨rfl,⟨u,hu⟩,hb1⟩;have c0:=hu.bi.c0;have f0:=hu.bi.f0;have HU:=Lib.hid hu;have HB:=Lib.hid hb1;clear hu hb1)
 go_ret
 exact⟨rfl,⟨_,HU.out.put false⟩,HB.out.setCell (Nat.le_refl _) _⟩
theorem dec_no {n:Nat} (h:n=0):decide (0<n)=false∧decide ((0:Int)<(n:Int))=false:=⟨decide_eq_false (by omega),decide_eq_false (by omega)⟩
theorem dec_yes {n:Nat} (h:0<n):decide (0<n)=true∧decide ((0:Int)<(n:Int))=true:=⟨decide_eq_true h,decide_eq_true (by omega)⟩
theorem blk_keepH {w w':World} {g:Nat} {o:Obj} (h:w.heap[g]?=some o) (hb:Below w.heap.size w w') (hg:g<w.heap.size):w'.heap[g]?=some o:=(hb.block g hg).trans h
set_option maxRecDepth 100000 in
set_option maxHeartbeats 8000000 in
theorem quoRem_c (gq gr ga gb:Nat) (va vb:Value) (zs:List Int) (y:Int) (w:World) (ha:BI w ga false va zs) (hb:BI w gb false vb [y]) (h2:2≤zs.length) (hmax:zs.length≤4398046511104) (h0:0<y) (h1:y<9223372036854775808)
 (hq:w.heap[gq]?=some (.cells #[.bool false, .slice none 0 0] 196 (0,0))) (hr:w.heap[gr]?=some (.cells #[.bool false, .slice none 0 0] 196 (0,0)))
 (hqr:gq<gr) (ne1:ga<gq) (ne2:gb<gq):
 Calls Tryz.prog 221 #[.pointer (some ⟨gq,0,none⟩), .pointer (some ⟨ga,0,none⟩), .pointer (some ⟨gb,0,none⟩), .pointer (some ⟨gr,0,none⟩)] w fun e w'=>
  e= .returned (.tuple #[.pointer (some ⟨gq,0,none⟩), .pointer (some ⟨gr,0,none⟩)])∧(∃u,BI w' gr false u (wordL (leN zs%y)))∧Below gq w w':=by
 have HC:=Lib.hid (fun w' (h:Below w.heap.size w w')=>natDiv_c _ _ va vb zs y w' (ha.sl.below h) h2 ha.words hmax (hb.sl.below h) h0 h1)
 have hrw:0≤leN zs%y∧leN zs%y<18446744073709551616:=by
  have:=Int.emod_nonneg (leN zs) (b:=y) (by omega)
  have:=Int.emod_lt_of_pos (leN zs) (b:=y) (by omega)
  omega
 have HW:=Lib.hid (And.intro (words_wordL _ hrw.1 hrw.2) (top_wordL (leN zs%y)))
 generalize wordL (leN zs%y)=rl at HC HW⊢
 have a0:=ha.c0
 have a1:=ha.c1
 have b0:=hb.c0
 have b1:=hb.c1
 have hla:=ha.lt
 have hlb:=hb.lt
 have q0:w.cell? ⟨gq,0,none⟩=some (.bool false):=blk_cell hq 0 _ rfl
 have q1:w.cell? ⟨gq,1,none⟩=some (.slice none 0 0):=blk_cell hq 1 _ rfl
 have qf0:=blk_free hq 0
 have qf1:=blk_free hq 1
 have r0:w.cell? ⟨gr,0,none⟩=some (.bool false):=blk_cell hr 0 _ rfl
 have r1:w.cell? ⟨gr,1,none⟩=some (.slice none 0 0):=blk_cell hr 1 _ rfl
 have rf0:=blk_free hr 0
 have rf1:=blk_free hr 1
 have hlq:=lt_of_cell q0
 have hlr:=lt_of_cell r0
 have HQ:=Lib.hid hq
 have HR:=Lib.hid hr
 obtain⟨A,c,rfl,_⟩:=ha.sl.c
 obtain⟨A2,c2,rfl,_⟩:=hb.sl.c
 simp only[List.length_singleton] at HC b1
 clear ha hb hq hr hrw h0 h1 hmax h2
 have HB0:Hid (Below w.heap.size w w):=Below.refl _ _
 have nqa:gq≠ga:=by omega
 have nqb:gq≠gb:=by omega
 have nra:gr≠ga:=by omega
 have nrb:gr≠gb:=by omega
 have HL0:=Lib.hid hlr
 have HA0:=Lib.hid a0
 have HA1:=Lib.hid b0
 go_enter Tryz.func221,Tryz.ntmps221
 go_upto_region 1 with fail
 go_cut [] (fun wx=> ∃A3 n3 c3 A4 c4,wx.heap[gq]?=some (.cells #[.bool false, .slice A3 n3 c3] 196 (0,0))∧wx.heap[gr]?=some (.cells #[.bool false, .slice A4 rl.length c4] 196 (0,0))∧Hid (Sl .u64 (gr+1) wx (.slice A4 rl.length c4) rl)∧Hid (Below gq w wx))
 case first=>
  refine wp_region_held_drew (S:=fun w'=>w'.cell? ⟨ga,1,none⟩=some (.slice A zs.length c)∧w'.cell? ⟨gb,1,none⟩=some (.slice A2 1 c2)) (by kernel_rfl) ⟨a1,b1⟩ (fun hHeld=>?_)
  refine wpAnyH_take (i:=0) (oi:=_) (v:=?_) rfl (by kernel_rfl) (by kernel_rfl) (by kernel_rfl) (fun _ _ _ h=>h) (Or.inl ⟨by rfl,?_⟩) (by assumption) ?_;rotate_left 1;·(intro w hSw;(try dsimp only at hSw);go_simp;first|done|with_reducible rfl)
  try simp only[Act.put,List.setIfInBounds_toArray,List.set_cons_zero,List.set_cons_succ,List.getElem_toArray,List.getElem_cons_zero,List.getElem_cons_succ]
  refine wpAnyH_take (i:=1) (oi:=_) (v:=?_) rfl (by kernel_rfl) (by kernel_rfl) (by kernel_rfl) (fun _ _ _ h=>h) (Or.inl ⟨by rfl,?_⟩) (by assumption) ?_;rotate_left 1;·(intro w hSw;(try dsimp only at hSw);go_simp;first|done|with_reducible rfl)
  try simp only[Act.put,List.setIfInBounds_toArray,List.set_cons_zero,List.set_cons_succ,List.getElem_toArray,List.getElem_cons_zero,List.getElem_cons_succ]
  refine wpAnyH_take (i:=2) (oi:=_) (v:=?_) rfl (by kernel_rfl) (by kernel_rfl) (by kernel_rfl) (fun _ _ _ h=>h) (Or.inl ⟨by rfl,?_⟩) (by assumption) ?_;rotate_left 1;·(intro w hSw;(try dsimp only at hSw);go_simp;first|done|with_reducible rfl)
  try simp only[Act.put,List.setIfInBounds_toArray,List.set_cons_zero,List.set_cons_succ,List.getElem_toArray,List.getElem_cons_zero,List.getElem_cons_succ]
  refine wpAnyH_take (i:=3) (oi:=_) (v:=?_) rfl (by kernel_rfl) (by kernel_rfl) (by kernel_rfl) (fun _ _ _ h=>h) (Or.inl ⟨by rfl,?_⟩) (by assumption) ?_;rotate_left 1;·(intro w hSw;(try dsimp only at hSw);go_simp;first|done|with_reducible rfl)
  try simp only[Act.put,List.setIfInBounds_toArray,List.set_cons_zero,List.set_cons_succ,List.getElem_toArray,List.getElem_cons_zero,List.getElem_cons_succ]
  refine wpAnyH_take (i:=4) (oi:=_) (v:=?_) rfl (by kernel_rfl) (by kernel_rfl) (by kernel_rfl) (fun _ _ _ h=>h) (Or.inl ⟨by rfl,?_⟩) (by assumption) ?_;rotate_left 1;·(intro w hSw;(try dsimp only at hSw);go_simp;first|done|with_reducible rfl)
  try simp only[Act.put,List.setIfInBounds_toArray,List.set_cons_zero,List.set_cons_succ,List.getElem_toArray,List.getElem_cons_zero,List.getElem_cons_succ]
  refine wpAnyH_take (i:=6) (oi:=_) (v:=?_) rfl (by kernel_rfl) (by kernel_rfl) (by kernel_rfl) (fun _ _ _ h=>h) (Or.inl ⟨by rfl,?_⟩) (by assumption) ?_;rotate_left 1;·(intro w hSw;(try dsimp only at hSw);go_simp;first|done|with_reducible rfl)
  try simp only[Act.put,List.setIfInBounds_toArray,List.set_cons_zero,List.set_cons_succ,List.getElem_toArray,List.getElem_cons_zero,List.getElem_cons_succ]
  refine wpAnyH_take (i:=7) (oi:=_) (v:=?_) rfl (by kernel_rfl) (by kernel_rfl) (by kernel_rfl) (fun _ _ _ h=>h) (Or.inl ⟨by rfl,?_⟩) (by assumption) ?_;rotate_left 1;·(intro w hSw;(try dsimp only at hSw);go_simp;first|done|with_reducible rfl)
  try simp only[Act.put,List.setIfInBounds_toArray,List.set_cons_zero,List.set_cons_succ,List.getElem_toArray,List.getElem_cons_zero,List.getElem_cons_succ]
  refine wpAnyH_take (i:=8) (oi:=_) (v:=?_) rfl (by kernel_rfl) (by kernel_rfl) (by kernel_rfl) (fun _ _ _ h=>h) (Or.inl ⟨by rfl,?_⟩) (by assumption) ?_;rotate_left 1;·(intro w hSw;(try dsimp only at hSw);go_simp;first|done|with_reducible rfl)
  try simp only[Act.put,List.setIfInBounds_toArray,List.set_cons_zero,List.set_cons_succ,List.getElem_toArray,List.getElem_cons_zero,List.getElem_cons_succ]
  refine wpAnyH_take (i:=10) (oi:=_) (v:=?_) rfl (by kernel_rfl) (by kernel_rfl) (by kernel_rfl) (fun _ _ _ h=>h) (Or.inl ⟨by rfl,?_⟩) (by assumption) ?_;rotate_left 1;·(intro w hSw;(try dsimp only at hSw);go_simp;first|done|with_reducible rfl)
  try simp only[Act.put,List.setIfInBounds_toArray,List.set_cons_zero,List.set_cons_succ,List.getElem_toArray,List.getElem_cons_zero,List.getElem_cons_succ]
  refine wpAnyH_take (i:=11) (oi:=_) (v:=?_) rfl (by kernel_rfl) (by kernel_rfl) (by kernel_rfl) (fun _ _ _ h=>h) (Or.inl ⟨by rfl,?_⟩) (by assumption) ?_;rotate_left 1;·(intro w hSw;(try dsimp only at hSw);go_simp;first|done|with_reducible rfl)
  try simp only[Act.put,List.setIfInBounds_toArray,List.set_cons_zero,List.set_cons_succ,List.getElem_toArray,List.getElem_cons_zero,List.getElem_cons_succ]
  refine wpAnyH_take (i:=12) (oi:=_) (v:=?_) rfl (by kernel_rfl) (by kernel_rfl) (by kernel_rfl) (fun _ _ _ h=>h) (Or.inl ⟨by rfl,?_⟩) (by assumption) ?_;rotate_left 1;·(intro w hSw;(try dsimp only at hSw);go_simp;first|done|with_reducible rfl)
  try simp only[Act.put,List.setIfInBounds_toArray,List.set_cons_zero,List.set_cons_succ,List.getElem_toArray,List.getElem_cons_zero,List.getElem_cons_succ]
  refine wpAnyH_take (i:=13) (oi:=_) (v:=?_) rfl (by kernel_rfl) (by kernel_rfl) (by kernel_rfl) (fun _ _ _ h=>h) (Or.inl ⟨by rfl,?_⟩) (by assumption) ?_;rotate_left 1;·(intro w hSw;(try dsimp only at hSw);go_simp;first|done|with_reducible rfl)
  try simp only[Act.put,List.setIfInBounds_toArray,List.set_cons_zero,List.set_cons_succ,List.getElem_toArray,List.getElem_cons_zero,List.getElem_cons_succ]
  refine wpAnyH_take (i:=14) (oi:=_) (v:=?_) rfl (by kernel_rfl) (by kernel_rfl) (by kernel_rfl) (fun _ _ _ h=>h) (Or.inl ⟨by rfl,?_⟩) (by assumption) ?_;rotate_left 1;·(intro w hSw;(try dsimp only at hSw);go_simp;first|done|with_reducible rfl)
  try simp only[Act.put,List.setIfInBounds_toArray,List.set_cons_zero,List.set_cons_succ,List.getElem_toArray,List.getElem_cons_zero,List.getElem_cons_succ]
  refine wpAnyH_take (i:=15) (oi:=_) (v:=?_) rfl (by kernel_rfl) (by kernel_rfl) (by kernel_rfl) (fun _ _ _ h=>h) (Or.inl ⟨by rfl,?_⟩) (by assumption) ?_;rotate_left 1;·(intro w hSw;(try dsimp only at hSw);go_simp;first|done|with_reducible rfl)
  try simp only[Act.put,List.setIfInBounds_toArray,List.set_cons_zero,List.set_cons_succ,List.getElem_toArray,List.getElem_cons_zero,List.getElem_cons_succ]
  refine wpAnyH_take (i:=16) (oi:=_) (v:=?_) rfl (by kernel_rfl) (by kernel_rfl) (by kernel_rfl) (fun _ _ _ h=>h) (Or.inl ⟨by rfl,?_⟩) (by assumption) ?_;rotate_left 1;·(intro w hSw;(try dsimp only at hSw);go_simp;first|done|with_reducible rfl)
  try simp only[Act.put,List.setIfInBounds_toArray,List.set_cons_zero,List.set_cons_succ,List.getElem_toArray,List.getElem_cons_zero,List.getElem_cons_succ]
  refine wpAnyH_take (i:=17) (oi:=_) (v:=?_) rfl (by kernel_rfl) (by kernel_rfl) (by kernel_rfl) (fun _ _ _ h=>h) (Or.inl ⟨by rfl,?_⟩) (by assumption) ?_;rotate_left 1;·(intro w hSw;(try dsimp only at hSw);go_simp;first|done|with_reducible rfl)
  try simp only[Act.put,List.setIfInBounds_toArray,List.set_cons_zero,List.set_cons_succ,List.getElem_toArray,List.getElem_cons_zero,List.getElem_cons_succ]
  refine wpAnyH_ready (rs:=[5,9]) (by kernel_rfl) (by simp) ?_
  refine AllReadyH.cons (o:=_) rfl (fun K hK=>?_) (AllReadyH.cons (o:=_) rfl (fun K hK=>?_) AllReadyH.nil)
  ·go_simp
   refine hK.out _ _ ⟨a1,b1⟩ (fun hHeld=>?_)
   clear hK K
   try simp only[Act.put,List.setIfInBounds_toArray,List.set_cons_zero,List.set_cons_succ]
   refine wpAnyH_ready (rs:=[9]) (by kernel_rfl) (by simp) ?_
   refine AllReadyH.cons (o:=_) rfl (fun K hK=>?_) AllReadyH.nil
   go_simp
   refine hK.out _ _ ⟨a1,b1⟩ (fun hHeld=>?_)
   clear hK K
   try simp only[Act.put,List.setIfInBounds_toArray,List.set_cons_zero,List.set_cons_succ,List.getElem_toArray,List.getElem_cons_zero,List.getElem_cons_succ]
   refine wpAnyH_ready (rs:=[18]) (by kernel_rfl) (by simp) ?_
   refine AllReadyH.cons (o:=_) rfl (fun K hK=>?_) AllReadyH.nil
   go_simp;go_at_call 175;(first|(with_reducible refine(HC.out _ HB0.out).mono ?_)|(with_reducible refine(HC.out _ HB0.out.drew).mono ?_));rintro e w1 ⟨⟨A3,n3,c3,A4,c4,rfl,hs4⟩,hb1⟩;have HS4:=Lib.hid hs4;replace HB0:Hid (Below w.heap.size w w1):=(by first|exact HB0.out.trans hb1|exact HB0.out.drew.trans hb1);have HL:=Lib.hid hb1.size;clear hs4 hb1;have q1':=(HB0.out.cell (p:=⟨gq,1,none⟩) hlq).trans q1;have qf1':=(HB0.out.frozen (p:=⟨gq,1,none⟩) hlq).trans qf1;have r1':=(HB0.out.cell (p:=⟨gr,1,none⟩) hlr).trans r1;have rf1':=(HB0.out.frozen (p:=⟨gr,1,none⟩) hlr).trans rf1;have a1':=(HB0.out.cell (p:=⟨ga,1,none⟩) hla).trans a1;have b1':=(HB0.out.cell (p:=⟨gb,1,none⟩) hlb).trans b1;have HKq:Hid (∀v,((w1.setCell ⟨gq,1,none⟩ v).cell? ⟨ga,1,none⟩=some (.slice A zs.length c)∧(w1.setCell ⟨gq,1,none⟩ v).cell? ⟨gb,1,none⟩=some (.slice A2 1 c2))):=Lib.hid fun v=>⟨(cell_setCell_ne _ _ _ _ (Or.inl nqa)).trans a1',(cell_setCell_ne _ _ _ _ (Or.inl nqb)).trans b1'⟩;have HKr:Hid (∀v u,(((w1.setCell ⟨gq,1,none⟩ v).setCell ⟨gr,1,none⟩ u).cell? ⟨ga,1,none⟩=some (.slice A zs.length c)∧((w1.setCell ⟨gq,1,none⟩ v).setCell ⟨gr,1,none⟩ u).cell? ⟨gb,1,none⟩=some (.slice A2 1 c2))):=Lib.hid fun v u=>⟨(cell_setCell_ne _ _ _ _ (Or.inl nra)).trans (HKq.out v).1,(cell_setCell_ne _ _ _ _ (Or.inl nrb)).trans (HKq.out v).2⟩
   refine hK.out _ _ ⟨a1',b1'⟩ (fun hHeld=>?_)
   clear hK K
   try simp only[Act.put,List.setIfInBounds_toArray,List.set_cons_zero,List.set_cons_succ,List.getElem_toArray,List.getElem_cons_zero,List.getElem_cons_succ]
   refine wpAnyH_take (i:=19) (oi:=_) (v:=?_) rfl (by kernel_rfl) (by kernel_rfl) (by kernel_rfl) (fun _ _ _ h=>h) (Or.inl ⟨by rfl,?_⟩) (by assumption) ?_;rotate_left 1;·(intro w hSw;(try dsimp only at hSw);go_simp;first|done|with_reducible rfl)
   try simp only[Act.put,List.setIfInBounds_toArray,List.set_cons_zero,List.set_cons_succ,List.getElem_toArray,List.getElem_cons_zero,List.getElem_cons_succ]
   refine wpAnyH_take (i:=20) (oi:=_) (v:=?_) rfl (by kernel_rfl) (by kernel_rfl) (by kernel_rfl) (fun _ _ _ h=>h) (Or.inl ⟨by rfl,?_⟩) (by assumption) ?_;rotate_left 1;·(intro w hSw;(try dsimp only at hSw);go_simp;first|done|with_reducible rfl)
   try simp only[Act.put,List.setIfInBounds_toArray,List.set_cons_zero,List.set_cons_succ,List.getElem_toArray,List.getElem_cons_zero,List.getElem_cons_succ]
   refine wpAnyH_take (i:=21) (oi:=_) (v:=?_) rfl (by kernel_rfl) (by kernel_rfl) (by kernel_rfl) (fun _ _ _ h=>h) (Or.inl ⟨by rfl,?_⟩) (by assumption) ?_;rotate_left 1;·(intro w hSw;(try dsimp only at hSw);go_simp;first|done|with_reducible rfl)
   try simp only[Act.put,List.setIfInBounds_toArray,List.set_cons_zero,List.set_cons_succ,List.getElem_toArray,List.getElem_cons_zero,List.getElem_cons_succ]
   refine wpAnyH_take (i:=22) (oi:=_) (v:=?_) rfl (by kernel_rfl) (by kernel_rfl) (by kernel_rfl) (fun _ _ _ h=>h) (Or.inl ⟨by rfl,?_⟩) (by assumption) ?_;rotate_left 1;·(intro w hSw;(try dsimp only at hSw);go_simp;first|done|with_reducible rfl)
   try simp only[Act.put,List.setIfInBounds_toArray,List.set_cons_zero,List.set_cons_succ,List.getElem_toArray,List.getElem_cons_zero,List.getElem_cons_succ]
   refine wpAnyH_take (i:=23) (oi:=_) (v:=?_) rfl (by kernel_rfl) (by kernel_rfl) (by kernel_rfl) (fun _ _ _ h=>h) (Or.inl ⟨by rfl,?_⟩) (by assumption) ?_;rotate_left 1;·(intro w hSw;(try dsimp only at hSw);go_simp;first|done|with_reducible rfl)
   try simp only[Act.put,List.setIfInBounds_toArray,List.set_cons_zero,List.set_cons_succ,List.getElem_toArray,List.getElem_cons_zero,List.getElem_cons_succ]
   refine wpAnyH_ready (rs:=[24]) (by kernel_rfl) (by simp) ?_
   refine AllReadyH.cons (o:=_) rfl (fun K hK=>?_) AllReadyH.nil
   go_simp
   refine hK.out _ _ (HKq.out _) (fun hHeld=>?_)
   clear hK K
   try simp only[Act.put,List.setIfInBounds_toArray,List.set_cons_zero,List.set_cons_succ,List.getElem_toArray,List.getElem_cons_zero,List.getElem_cons_succ]
   refine wpAnyH_take (i:=25) (oi:=_) (v:=?_) rfl (by kernel_rfl) (by kernel_rfl) (by kernel_rfl) (fun _ _ _ h=>h) (Or.inl ⟨by rfl,?_⟩) (by assumption) ?_;rotate_left 1;·(intro w hSw;(try dsimp only at hSw);go_simp;first|done|with_reducible rfl)
   try simp only[Act.put,List.setIfInBounds_toArray,List.set_cons_zero,List.set_cons_succ,List.getElem_toArray,List.getElem_cons_zero,List.getElem_cons_succ]
   refine wpAnyH_take (i:=26) (oi:=_) (v:=?_) rfl (by kernel_rfl) (by kernel_rfl) (by kernel_rfl) (fun _ _ _ h=>h) (Or.inl ⟨by rfl,?_⟩) (by assumption) ?_;rotate_left 1;·(intro w hSw;(try dsimp only at hSw);go_simp;first|done|with_reducible rfl)
   try simp only[Act.put,List.setIfInBounds_toArray,List.set_cons_zero,List.set_cons_succ,List.getElem_toArray,List.getElem_cons_zero,List.getElem_cons_succ]
   refine wpAnyH_ready (rs:=[27]) (by kernel_rfl) (by simp) ?_
   refine AllReadyH.cons (o:=_) rfl (fun K hK=>?_) AllReadyH.nil
   go_simp
   refine hK.out _ _ (HKr.out _ _) (fun hHeld=>?_)
   clear hK K
   try simp only[Act.put,List.setIfInBounds_toArray,List.set_cons_zero,List.set_cons_succ,List.getElem_toArray,List.getElem_cons_zero,List.getElem_cons_succ]
   refine wpAnyH_done (by kernel_rfl) ?_ _
   (go_wp2_with fail;go_meet;exact⟨A3,n3,c3,A4,c4,blk_far (blk_put (blk_keepH HQ.out HB0.out hlq) 1 _ rfl) (by show gq≠gr;omega) _,blk_put (blk_far (blk_keepH HR.out HB0.out hlr) (by show gr≠gq;omega) _) 1 _ rfl,Lib.hid (((HS4.out.mono (by have:=HL0.out;show _≤w.heap.size;omega)).setCell (p:=⟨gq,1,none⟩) _ (by show gq<gr+1;omega)).setCell (p:=⟨gr,1,none⟩) _ (by show gr<gr+1;omega)),Lib.hid (((HB0.out.mono (Nat.le_of_lt hlq)).setCell (Nat.le_refl _) _).setCell (by show gq≤gr;omega) _)⟩)
  ·go_simp
   refine hK.out _ _ ⟨a1,b1⟩ (fun hHeld=>?_)
   clear hK K
   try simp only[Act.put,List.setIfInBounds_toArray,List.set_cons_zero,List.set_cons_succ]
   refine wpAnyH_ready (rs:=[5]) (by kernel_rfl) (by simp) ?_
   refine AllReadyH.cons (o:=_) rfl (fun K hK=>?_) AllReadyH.nil
   go_simp
   refine hK.out _ _ ⟨a1,b1⟩ (fun hHeld=>?_)
   clear hK K
   try simp only[Act.put,List.setIfInBounds_toArray,List.set_cons_zero,List.set_cons_succ,List.getElem_toArray,List.getElem_cons_zero,List.getElem_cons_succ]
   refine wpAnyH_ready (rs:=[18]) (by kernel_rfl) (by simp) ?_
   refine AllReadyH.cons (o:=_) rfl (fun K hK=>?_) AllReadyH.nil
   go_simp;go_at_call 175;(first|(with_reducible refine(HC.out _ HB0.out).mono ?_)|(with_reducible refine(HC.out _ HB0.out.drew).mono ?_));rintro e w1 ⟨⟨A3,n3,c3,A4,c4,rfl,hs4⟩,hb1⟩;have HS4:=Lib.hid hs4;replace HB0:Hid (Below w.heap.size w w1):=(by first|exact HB0.out.trans hb1|exact HB0.out.drew.trans hb1);have HL:=Lib.hid hb1.size;clear hs4 hb1;have q1':=(HB0.out.cell (p:=⟨gq,1,none⟩) hlq).trans q1;have qf1':=(HB0.out.frozen (p:=⟨gq,1,none⟩) hlq).trans qf1;have r1':=(HB0.out.cell (p:=⟨gr,1,none⟩) hlr).trans r1;have rf1':=(HB0.out.frozen (p:=⟨gr,1,none⟩) hlr).trans rf1;have a1':=(HB0.out.cell (p:=⟨ga,1,none⟩) hla).trans a1;have b1':=(HB0.out.cell (p:=⟨gb,1,none⟩) hlb).trans b1;have HKq:Hid (∀v,((w1.setCell ⟨gq,1,none⟩ v).cell? ⟨ga,1,none⟩=some (.slice A zs.length c)∧(w1.setCell ⟨gq,1,none⟩ v).cell? ⟨gb,1,none⟩=some (.slice A2 1 c2))):=Lib.hid fun v=>⟨(cell_setCell_ne _ _ _ _ (Or.inl nqa)).trans a1',(cell_setCell_ne _ _ _ _ (Or.inl nqb)).trans b1'⟩;have HKr:Hid (∀v u,(((w1.setCell ⟨gq,1,none⟩ v).setCell ⟨gr,1,none⟩ u).cell? ⟨ga,1,none⟩=some (.slice A zs.length c)∧((w1.setCell ⟨gq,1,none⟩ v).setCell ⟨gr,1,none⟩ u).cell? ⟨gb,1,none⟩=some (.slice A2 1 c2))):=Lib.hid fun v u=>⟨(cell_setCell_ne _ _ _ _ (Or.inl nra)).trans (HKq.out v).1,(cell_setCell_ne _ _ _ _ (Or.inl nrb)).trans (HKq.out v).2⟩
   refine hK.out _ _ ⟨a1',b1'⟩ (fun hHeld=>?_)
   clear hK K
   try simp only[Act.put,List.setIfInBounds_toArray,List.set_cons_zero,List.set_cons_succ,List.getElem_toArray,List.getElem_cons_zero,List.getElem_cons_succ]
   refine wpAnyH_take (i:=19) (oi:=_) (v:=?_) rfl (by kernel_rfl) (by kernel_rfl) (by kernel_rfl) (fun _ _ _ h=>h) (Or.inl ⟨by rfl,?_⟩) (by assumption) ?_;rotate_left 1;·(intro w hSw;(try dsimp only at hSw);go_simp;first|done|with_reducible rfl)
   try simp only[Act.put,List.setIfInBounds_toArray,List.set_cons_zero,List.set_cons_succ,List.getElem_toArray,List.getElem_cons_zero,List.getElem_cons_succ]
   refine wpAnyH_take (i:=20) (oi:=_) (v:=?_) rfl (by kernel_rfl) (by kernel_rfl) (by kernel_rfl) (fun _ _ _ h=>h) (Or.inl ⟨by rfl,?_⟩) (by assumption) ?_;rotate_left 1;·(intro w hSw;(try dsimp only at hSw);go_simp;first|done|with_reducible rfl)
   try simp only[Act.put,List.setIfInBounds_toArray,List.set_cons_zero,List.set_cons_succ,List.getElem_toArray,List.getElem_cons_zero,List.getElem_cons_succ]
   refine wpAnyH_take (i:=21) (oi:=_) (v:=?_) rfl (by kernel_rfl) (by kernel_rfl) (by kernel_rfl) (fun _ _ _ h=>h) (Or.inl ⟨by rfl,?_⟩) (by assumption) ?_;rotate_left 1;·(intro w hSw;(try dsimp only at hSw);go_simp;first|done|with_reducible rfl)
   try simp only[Act.put,List.setIfInBounds_toArray,List.set_cons_zero,List.set_cons_succ,List.getElem_toArray,List.getElem_cons_zero,List.getElem_cons_succ]
   refine wpAnyH_take (i:=22) (oi:=_) (v:=?_) rfl (by kernel_rfl) (by kernel_rfl) (by kernel_rfl) (fun _ _ _ h=>h) (Or.inl ⟨by rfl,?_⟩) (by assumption) ?_;rotate_left 1;·(intro w hSw;(try dsimp only at hSw);go_simp;first|done|with_reducible rfl)
   try simp only[Act.put,List.setIfInBounds_toArray,List.set_cons_zero,List.set_cons_succ,List.getElem_toArray,List.getElem_cons_zero,List.getElem_cons_succ]
   refine wpAnyH_take (i:=23) (oi:=_) (v:=?_) rfl (by kernel_rfl) (by kernel_rfl) (by kernel_rfl) (fun _ _ _ h=>h) (Or.inl ⟨by rfl,?_⟩) (by assumption) ?_;rotate_left 1;·(intro w hSw;(try dsimp only at hSw);go_simp;first|done|with_reducible rfl)
   try simp only[Act.put,List.setIfInBounds_toArray,List.set_cons_zero,List.set_cons_succ,List.getElem_toArray,List.getElem_cons_zero,List.getElem_cons_succ]
   refine wpAnyH_ready (rs:=[24]) (by kernel_rfl) (by simp) ?_
   refine AllReadyH.cons (o:=_) rfl (fun K hK=>?_) AllReadyH.nil
   go_simp
   refine hK.out _ _ (HKq.out _) (fun hHeld=>?_)
   clear hK K
   try simp only[Act.put,List.setIfInBounds_toArray,List.set_cons_zero,List.set_cons_succ,List.getElem_toArray,List.getElem_cons_zero,List.getElem_cons_succ]
   refine wpAnyH_take (i:=25) (oi:=_) (v:=?_) rfl (by kernel_rfl) (by kernel_rfl) (by kernel_rfl) (fun _ _ _ h=>h) (Or.inl ⟨by rfl,?_⟩) (by assumption) ?_;rotate_left 1;·(intro w hSw;(try dsimp only at hSw);go_simp;first|done|with_reducible rfl)
   try simp only[Act.put,List.setIfInBounds_toArray,List.set_cons_zero,List.set_cons_succ,List.getElem_toArray,List.getElem_cons_zero,List.getElem_cons_succ]
   refine wpAnyH_take (i:=26) (oi:=_) (v:=?_) rfl (by kernel_rfl) (by kernel_rfl) (by kernel_rfl) (fun _ _ _ h=>h) (Or.inl ⟨by rfl,?_⟩) (by assumption) ?_;rotate_left 1;·(intro w hSw;(try dsimp only at hSw);go_simp;first|done|with_reducible rfl)
   try simp only[Act.put,List.setIfInBounds_toArray,List.set_cons_zero,List.set_cons_succ,List.getElem_toArray,List.getElem_cons_zero,List.getElem_cons_succ]
   refine wpAnyH_ready (rs:=[27]) (by kernel_rfl) (by simp) ?_
   refine AllReadyH.cons (o:=_) rfl (fun K hK=>?_) AllReadyH.nil
   go_simp
   refine hK.out _ _ (HKr.out _ _) (fun hHeld=>?_)
   clear hK K
   try simp only[Act.put,List.setIfInBounds_toArray,List.set_cons_zero,List.set_cons_succ,List.getElem_toArray,List.getElem_cons_zero,List.getElem_cons_succ]
   refine wpAnyH_done (by kernel_rfl) ?_ _
   (go_wp2_with fail;go_meet;exact⟨A3,n3,c3,A4,c4,blk_far (blk_put (blk_keepH HQ.out HB0.out hlq) 1 _ rfl) (by show gq≠gr;omega) _,blk_put (blk_far (blk_keepH HR.out HB0.out hlr) (by show gr≠gq;omega) _) 1 _ rfl,Lib.hid (((HS4.out.mono (by have:=HL0.out;show _≤w.heap.size;omega)).setCell (p:=⟨gq,1,none⟩) _ (by show gq<gr+1;omega)).setCell (p:=⟨gr,1,none⟩) _ (by show gr<gr+1;omega)),Lib.hid (((HB0.out.mono (Nat.le_of_lt hlq)).setCell (Nat.le_refl _) _).setCell (by show gq≤gr;omega) _)⟩)
 case rest=>
  obtain⟨A3,n3,c3,A4,c4,hq2,hr2,HS4,HBX⟩:=hcut
  clear a0 a1 b0 b1 q0 q1 r0 r1 qf0 qf1 rf0 rf1 HQ HR HL0 HB0 hla hlb hlq hlr
  have q0:wc.cell? ⟨gq,0,none⟩=some (.bool false):=blk_cell hq2 0 _ rfl
  have q1:wc.cell? ⟨gq,1,none⟩=some (.slice A3 n3 c3):=blk_cell hq2 1 _ rfl
  have qf0:=blk_free hq2 0
  have r0:wc.cell? ⟨gr,0,none⟩=some (.bool false):=blk_cell hr2 0 _ rfl
  have r1:wc.cell? ⟨gr,1,none⟩=some (.slice A4 rl.length c4):=blk_cell hr2 1 _ rfl
  have rf0:=blk_free hr2 0
  have a0:wc.cell? ⟨ga,0,none⟩=some (.bool false):=(HBX.out.cell (p:=⟨ga,0,none⟩) ne1).trans HA0.out
  have b0:wc.cell? ⟨gb,0,none⟩=some (.bool false):=(HBX.out.cell (p:=⟨gb,0,none⟩) ne2).trans HA1.out
  have HQ2:=Lib.hid hq2
  have HR2:=Lib.hid hr2
  clear hq2 hr2 HC
  have HEnd:Hid (∀b1:Bool,BI ((wc.setCell ⟨gq,0,none⟩ (.bool b1)).setCell ⟨gr,0,none⟩ (.bool false)) gr false (.slice A4 rl.length c4) rl∧Below gq w ((wc.setCell ⟨gq,0,none⟩ (.bool b1)).setCell ⟨gr,0,none⟩ (.bool false))):=Lib.hid fun b1=>
   ⟨⟨blk_put (blk_far HR2.out (by show gr≠gq;omega) _) 0 _ rfl,(HS4.out.setCell (p:=⟨gq,0,none⟩) _ (by show gq<gr+1;omega)).setCell (p:=⟨gr,0,none⟩) _ (by show gr<gr+1;omega),HW.out.1,HW.out.2⟩,(HBX.out.setCell (Nat.le_refl _) _).setCell (by show gq≤gr;omega) _⟩
  have HK1:Hid (∀u,((wc.setCell ⟨gq,0,none⟩ u).cell? ⟨gq,1,none⟩=some (.slice A3 n3 c3)∧(wc.setCell ⟨gq,0,none⟩ u).cell? ⟨gr,1,none⟩=some (.slice A4 rl.length c4)∧(wc.setCell ⟨gq,0,none⟩ u).cell? ⟨ga,0,none⟩=some (.bool false)∧(wc.setCell ⟨gq,0,none⟩ u).cell? ⟨gb,0,none⟩=some (.bool false))):=Lib.hid fun u=>⟨(cell_setCell_ne _ _ _ _ (Or.inr (by show 0≠1;omega))).trans q1,(cell_setCell_ne _ _ _ _ (Or.inl (by show gq≠gr;omega))).trans r1,(cell_setCell_ne _ _ _ _ (Or.inl nqa)).trans a0,(cell_setCell_ne _ _ _ _ (Or.inl nqb)).trans b0⟩
  have HK2:Hid (∀u v,(((wc.setCell ⟨gq,0,none⟩ u).setCell ⟨gr,0,none⟩ v).cell? ⟨gq,1,none⟩=some (.slice A3 n3 c3)∧((wc.setCell ⟨gq,0,none⟩ u).setCell ⟨gr,0,none⟩ v).cell? ⟨gr,1,none⟩=some (.slice A4 rl.length c4)∧((wc.setCell ⟨gq,0,none⟩ u).setCell ⟨gr,0,none⟩ v).cell? ⟨ga,0,none⟩=some (.bool false)∧((wc.setCell ⟨gq,0,none⟩ u).setCell ⟨gr,0,none⟩ v).cell? ⟨gb,0,none⟩=some (.bool false))):=Lib.hid fun u v=>⟨(cell_setCell_ne _ _ _ _ (Or.inl (by show gr≠gq;omega))).trans (HK1.out u).1,(cell_setCell_ne _ _ _ _ (Or.inr (by show 0≠1;omega))).trans (HK1.out u).2.1,(cell_setCell_ne _ _ _ _ (Or.inl nra)).trans (HK1.out u).2.2.1,(cell_setCell_ne _ _ _ _ (Or.inl nrb)).trans (HK1.out u).2.2.2⟩
  rcases Nat.eq_zero_or_pos n3 with hn3|hn3
  all_goals rcases Nat.eq_zero_or_pos rl.length with hl3|hl3
  case inr.inr=>
   obtain⟨g1,g3⟩:=dec_yes hn3
   obtain⟨g2,g4⟩:=dec_yes hl3
   clear hn3 hl3
   go_wp2_with fail
   go_region_held3 (fun w'=>w'.cell? ⟨gq,1,none⟩=some (.slice A3 n3 c3)∧w'.cell? ⟨gr,1,none⟩=some (.slice A4 rl.length c4)∧w'.cell? ⟨ga,0,none⟩=some (.bool false)∧w'.cell? ⟨gb,0,none⟩=some (.bool false)) (first|exact HK1.out _|exact HK2.out _ _|go_keep) (fail)
   all_goals go_wp2
   all_goals go_ret2
   all_goals first|exact⟨rfl,⟨_,(HEnd.out _).1⟩,(HEnd.out _).2⟩|exact⟨rfl,⟨_,(HEnd.out _).1.drew⟩,(HEnd.out _).2.drew⟩
  case inl.inl=>
   obtain⟨g1,g3⟩:=dec_no hn3
   obtain⟨g2,g4⟩:=dec_no hl3
   clear hn3 hl3
   go_wp2_with fail
   go_region
   all_goals go_wp2
   all_goals go_ret2
   all_goals first|exact⟨rfl,⟨_,(HEnd.out _).1⟩,(HEnd.out _).2⟩|exact⟨rfl,⟨_,(HEnd.out _).1.drew⟩,(HEnd.out _).2.drew⟩
  case inl.inr=>
   obtain⟨g1,g3⟩:=dec_no hn3
   obtain⟨g2,g4⟩:=dec_yes hl3
   clear hn3 hl3
   go_wp2_with fail
   go_region
   all_goals go_wp2
   all_goals go_ret2
   all_goals first|exact⟨rfl,⟨_,(HEnd.out _).1⟩,(HEnd.out _).2⟩|exact⟨rfl,⟨_,(HEnd.out _).1.drew⟩,(HEnd.out _).2.drew⟩
  case inr.inl=>
   obtain⟨g1,g3⟩:=dec_yes hn3
   obtain⟨g2,g4⟩:=dec_no hl3
   clear hn3 hl3
   go_wp2_with fail
   go_region
   all_goals go_wp2
   all_goals go_ret2
   all_goals first|exact⟨rfl,⟨_,(HEnd.out _).1⟩,(HEnd.out _).2⟩|exact⟨rfl,⟨_,(HEnd.out _).1.drew⟩,(HEnd.out _).2.drew⟩
set_option maxRecDepth 100000 in
theorem euclidUpdate_c (gq gr ga gb:Nat) (va vb:Value) (zs:List Int) (y:Int) (w:World) (ha:BI w ga false va zs) (hb:BI w gb false vb [y]) (h2:2≤zs.length) (hmax:zs.length≤4398046511104) (h0:0<y) (h1:y<9223372036854775808)
 (hq:w.heap[gq]?=some (.cells #[.bool false, .slice none 0 0] 196 (0,0))) (hr:w.heap[gr]?=some (.cells #[.bool false, .slice none 0 0] 196 (0,0)))
 (hqr:gq<gr) (ne1:ga<gq) (ne2:gb<gq):
 Calls Tryz.prog 200 #[.pointer (some ⟨ga,0,none⟩), .pointer (some ⟨gb,0,none⟩), .pointer none, .pointer none, .pointer (some ⟨gq,0,none⟩), .pointer (some ⟨gr,0,none⟩), .bool false] w fun e w'=>
  e= .returned (.tuple #[.pointer (some ⟨gb,0,none⟩), .pointer (some ⟨gr,0,none⟩), .pointer (some ⟨ga,0,none⟩), .pointer none, .pointer none])∧(∃u,BI w' gr false u (wordL (leN zs%y)))∧Below gq w w':=by
 have HC:=Lib.hid (quoRem_c gq gr ga gb va vb zs y w ha hb h2 hmax h0 h1 hq hr hqr ne1 ne2)
 clear ha hb h2 hmax h0 h1 hq hr hqr ne1 ne2
 generalize wordL (leN zs%y)=rl at HC⊢
 go_enter Tryz.func200,Tryz.ntmps200
 go_wp2_with (go_at_call 221;with_reducible refine HC.out.mono ?_;rintro e w1 ⟨rfl,⟨u,hu⟩,hb⟩;have HU:=Lib.hid hu;have HB:=Lib.hid hb;clear hu hb)
 refine bodyPost_ret (v:= .tuple #[.pointer (some ⟨gb,0,none⟩), .pointer (some ⟨gr,0,none⟩), .pointer (some ⟨ga,0,none⟩), .pointer none, .pointer none]) (by simp[results,Tryz.results200,go_sem]) rfl ⟨rfl,⟨_,HU.out⟩,HB.out⟩
structure GR (w0:World) (gA rA cA gB rB cB gq gr:Nat) (la lb:List Int) (w:World):Prop where
 A:OI w gA rA cA false la
 B:OI w gB rB cB false lb
 q:w.heap[gq]?=some (.cells #[.bool false, .slice none 0 0] 196 (0,0))
 r:w.heap[gr]?=some (.cells #[.bool false, .slice none 0 0] 196 (0,0))
 oA:rA<gq
 oB:rB<gq
 oq:gq<gr
 lA:w0.heap.size≤gA
 lB:w0.heap.size≤gB
 low:Below w0.heap.size w0 w
theorem GR.swap {w0 w:World} {gA rA cA gB rB cB gq gr:Nat} {la lb:List Int} (h:GR w0 gA rA cA gB rB cB gq gr la lb w):GR w0 gB rB cB gA rA cA gq gr lb la w:=
 ⟨h.B,h.A,h.q,h.r,h.oB,h.oA,h.oq,h.lB,h.lA,h.low⟩
theorem GR.drewN {w0 w:World} {gA rA cA gB rB cB gq gr:Nat} {la lb:List Int} (h:GR w0 gA rA cA gB rB cB gq gr la lb w) (n:Nat):GR w0 gA rA cA gB rB cB gq gr la lb (w.drewN n):=
 ⟨h.A.drewN n,h.B.drewN n,h.q,h.r,h.oA,h.oB,h.oq,h.lA,h.lB,pw_below_drewN h.low n⟩
structure GN (la:List Int) (y:Int):Prop where
 bez:Bez (leN la) y
 ne:la≠[]
 one:la.length=1∨(2≤la.length∧y<9223372036854775808)
 y0:0<y
 y1:y<18446744073709551616
theorem single {l:List Int} (h:l.length=1) (hw:Words l) (ht:Top l): ∃x,l=[x]∧0<x∧x<18446744073709551616:=by
 match l,h with
 |[x],_=>
  have h1:=hw x (List.mem_cons_self)
  have h2:=ht (by simp)
  simp at h2
  exact⟨x,rfl,by omega,h1.2⟩
theorem leN_one (x:Int):leN [x]=x:=by simp[leN]
theorem sgn_lt0 {x:Int} (h:x<0):sgn x<0:=(sgn_lt x).2 h
theorem sgn_ge0 {x:Int} (h: ¬x<0): ¬sgn x<0:=fun h2=>h ((sgn_lt x).1 h2)
theorem gn_of {zs ws:List Int} (wz:Words zs) (tz:Top zs) (ww:Words ws) (tw:Top ws) (h1:zs≠[]) (hb:Bez (leN zs) (leN ws)) (h:ws.length=1∧(zs.length=1∨leN ws<9223372036854775808)): ∃y,ws=[y]∧GN zs y:=by
 obtain⟨y,rfl,y0,y1⟩:=single h.1 ww tw
 rw[leN_one] at hb h
 have hl:0<zs.length:=List.length_pos_iff.2 h1
 refine⟨y,rfl,hb,h1,?_,y0,y1⟩
 rcases h.2 with h3|h3
 ·exact Or.inl h3
 ·by_cases e:zs.length=1
  ·exact Or.inl e
  ·exact Or.inr ⟨by omega,h3⟩
theorem gn_lt {zs ws:List Int} (wz:Words zs) (tz:Top zs) (ww:Words ws) (tw:Top ws) (h1:zs≠[]) (h2:ws≠[]) (hlt:leN zs-leN ws<0) (hb:Bez (leN zs) (leN ws))
 (hone:(zs.length=1∧(ws.length=1∨leN zs<9223372036854775808))∨(ws.length=1∧(zs.length=1∨leN ws<9223372036854775808))): ∃y,zs=[y]∧GN ws y:=by
 have hz:0<zs.length:=List.length_pos_iff.2 h1
 refine gn_of ww tw wz tz h2 hb.swap ?_
 rcases hone with h|h
 ·exact h
 ·by_cases e:zs.length=1
  ·exact⟨e,Or.inl h.1⟩
  ·have:=leN_longer ws zs ww wz tz (by omega)
   omega
theorem gn_ge {zs ws:List Int} (wz:Words zs) (tz:Top zs) (ww:Words ws) (tw:Top ws) (h1:zs≠[]) (h2:ws≠[]) (hge: ¬leN zs-leN ws<0) (hb:Bez (leN zs) (leN ws))
 (hone:(zs.length=1∧(ws.length=1∨leN zs<9223372036854775808))∨(ws.length=1∧(zs.length=1∨leN ws<9223372036854775808))): ∃y,ws=[y]∧GN zs y:=by
 have hw:0<ws.length:=List.length_pos_iff.2 h2
 refine gn_of wz tz ww tw h1 hb ?_
 rcases hone with h|h
 ·by_cases e:ws.length=1
  ·exact⟨e,Or.inl h.1⟩
  ·have:=leN_longer zs ws wz ww tw (by omega)
   omega
 ·exact h
structure GW (w0:World) (gA rA cA gB:Nat) (vb:Value) (lb:List Int) (x:Int) (w:World):Prop where
 A:OI w gA rA cA false [x]
 B:BI w gB false vb lb
 lA:w0.heap.size≤gA
 low:Below w0.heap.size w0 w
 x0:0≤x∧x<18446744073709551616
 num:(lb=[]∧x=1)∨ ∃y,lb=[y]∧Bez x y∧0<y∧y<18446744073709551616
theorem gw_single {w0 w:World} {gA rA cA gB rB cB gq gr:Nat} {la:List Int} {y:Int} (h:GR w0 gA rA cA gB rB cB gq gr la [y] w) (hn:GN la y) (h1:la.length=1): ∃x,la=[x]∧GW w0 gA rA cA gB (.slice (some ⟨rB,0,none⟩) 1 cB) [y] x w:=by
 obtain⟨x,rfl,hx0,hx1⟩:=single h1 h.A.words h.A.top
 have hb:=hn.bez
 rw[leN_one] at hb
 exact⟨x,rfl,h.A,h.B.bi,h.lA,h.low,⟨by omega,hx1⟩,Or.inr ⟨y,rfl,hb,hn.y0,hn.y1⟩⟩
theorem gw_long {w0 w w1:World} {gA rA cA gB rB cB gq gr:Nat} {la:List Int} {y:Int} {u:Value} (h:GR w0 gA rA cA gB rB cB gq gr la [y] w) (hn:GN la y) (hu:BI w1 gr false u (wordL (leN la%y))) (hb:Below gq w w1):GW w0 gB rB cB gr u (wordL (leN la%y)) y w1:=by
 have hB:=h.lB
 have hq:w0.heap.size≤gq:=by have:=h.oB;have:=h.B.gr;omega
 have hy:=hn.y0
 refine⟨h.B.keep hb h.oB,hu,hB,h.low.trans (hb.mono hq),⟨by omega,hn.y1⟩,?_⟩
 have hs:=hn.bez.step
 have e0:=Int.emod_nonneg (leN la) (b:=y) (by omega)
 have e1:=Int.emod_lt_of_pos (leN la) hy
 have:=hn.y1
 unfold wordL
 by_cases hz:leN la%y=0
 ·rw[if_pos hz]
  rw[hz] at hs
  exact Or.inl ⟨rfl,hs.zero (by omega)⟩
 ·rw[if_neg hz]
  exact Or.inr ⟨_,rfl,hs,by omega,by omega⟩
theorem oi_one {w:World} {g r c:Nat} {neg:Bool} {x:Int} (h:OI w g r c neg [x]) (y:Int) (hy:0<y) (hy1:y<18446744073709551616):OI (w.setCell ⟨r,0,none⟩ (.int .u64 y)) g r c neg [y]:=by
 have:=h.row.set 0 (by simp) y
 exact⟨blk_far h.blk (by have:=h.gr;show g≠r;omega) _,by simpa using this,h.gr,by simpa [World.setCell] using h.rl,h.cap,h.len,fun z hz=>by rw[List.mem_singleton] at hz;rw[hz];omega,fun _=>by simp;omega⟩
theorem words_loop {x y:Int} (h:Bez x y) (hx:0≤x∧x<18446744073709551616) (hy:0<y∧y<18446744073709551616):Bez y (x%y)∧0≤x%y∧x%y<y∧x.tmod y=x%y∧IntKind.u64.wrap (x%y)=x%y:=by
 have e0:=Int.emod_nonneg x (b:=y) (by omega)
 have e1:=Int.emod_lt_of_pos x hy.1
 exact⟨h.step,e0,e1,Int.tmod_eq_emod_of_nonneg hx.1,wrap_same _ e0 (by omega)⟩
theorem drewN_two (w:World) (a b:Nat):(w.drewN a).drewN b=w.drewN (a+b):=by
 simp[World.drewN,Nat.add_assoc]
set_option maxRecDepth 100000 in
set_option maxHeartbeats 4000000 in
theorem gcd_c (gz g:Nat) (va vb:Value) (zs ws:List Int) (w:World) (ha:PI w g 0 false va zs) (hb:PI w g 2 false vb ws) (hz:w.heap[gz]?=some (.cells #[.bool false, .slice none 0 0] 196 (0,0))) (hg:g<gz)
 (hbz:Bez (leN zs) (leN ws)) (h1:zs≠[]) (h2:ws≠[]) (hl1:zs.length≤100000) (hl2:ws.length≤100000)
 (hone:(zs.length=1∧(ws.length=1∨leN zs<9223372036854775808))∨(ws.length=1∧(zs.length=1∨leN ws<9223372036854775808))):
 Calls Tryz.prog 174 #[.pointer (some ⟨gz,0,none⟩), .pointer none, .pointer none, .pointer (some ⟨g,0,none⟩), .pointer (some ⟨g,2,none⟩)] w fun e w'=>e= .returned (.pointer (some ⟨gz,0,none⟩))∧(∃u,BI w' gz false u [1])∧Below gz w w':=by
 have hgz:=blk_lt hz
 have c0:=ha.c0
 have HPA:=Lib.hid (fun w' (h:Below w.heap.size w w')=>ha.below h)
 have HPB:=Lib.hid (fun w' (h:Below w.heap.size w w')=>hb.below h)
 have HZ:=Lib.hid hz
 have HN:=Lib.hid (And.intro ha.words (And.intro ha.top (And.intro hb.words hb.top)))
 have HO:=Lib.hid (And.intro hbz hone)
 have hgl:g<w.heap.size:=Nat.lt_trans hg hgz
 clear ha hb hz hbz hone
 go_enter Tryz.func174,Tryz.ntmps174
 go_upto_region 10 with(first
  |(go_at_call_of 197 (Value.pointer (some ⟨g,0,none⟩));with_reducible refine(intAbsO_c g 0 w.heap.size false false va zs _ (HPA.out _ ((Below.refl _ _).alloc (Nat.le_refl _) _)) h1 (by omega) (by omega) (blk_new _ _)).mono ?_;rintro e w1 ⟨rfl,⟨cA,hA⟩,hb1⟩;have HA:=Lib.hid hA;have HB1:=Lib.hid (((Below.refl _ _).alloc (Nat.le_refl _) _).trans hb1);clear hA hb1)
  |(go_at_call 197;with_reducible refine(intAbsO_c g 2 w1.heap.size false false vb ws _ (HPB.out _ (HB1.out.alloc HB1.out.size _)) h2 (by have:=HB1.out.size;omega) (by omega) (blk_new _ _)).mono ?_;rintro e w2 ⟨rfl,⟨cB,hB⟩,hb2⟩;have HBB:=Lib.hid hB;have HB2:=Lib.hid hb2;clear hB hb2))
 have hs1:(w1.alloc (.cells #[.bool false, .slice none 0 0] 196)).heap.size=w1.heap.size+1:=by simp
 have hs0:(w.alloc (.cells #[.bool false, .slice none 0 0] 196)).heap.size=w.heap.size+1:=by simp
 rw[hs1] at HBB
 rw[hs0] at HA
 have HG:Hid (GR w w.heap.size (w.heap.size+1) cA w1.heap.size (w1.heap.size+1) cB w2.heap.size (w2.heap.size+1) zs ws ((w2.alloc (.cells #[.bool false, .slice none 0 0] 196)).alloc (.cells #[.bool false, .slice none 0 0] 196))):=by
  have b0: ∀(W:World) o1 o2,Below W.heap.size W ((W.alloc o1).alloc o2):=fun W o1 o2=>((Below.refl _ _).alloc (Nat.le_refl _) o1).alloc (by simp) o2
  have a1:=(HA.out.below ((Below.refl _ _).alloc (Nat.le_refl _) (.cells #[.bool false, .slice none 0 0] 196))).keep HB2.out HA.out.rl
  have s1:=HB1.out.size
  have s2:=HB2.out.size
  rw[hs1] at s2
  exact⟨a1.below (b0 _ _ _),HBB.out.below (b0 _ _ _),blk_alloc (blk_new _ _) _,by simpa using blk_new (w2.alloc (.cells #[.bool false, .slice none 0 0] 196)) (.cells #[.bool false, .slice none 0 0] 196),a1.rl,HBB.out.rl,by omega,Nat.le_refl _,s1,(((HB1.out.alloc s1 _).trans (HB2.out.mono s1)).alloc (by omega) _).alloc (by simp;omega) _⟩
 clear hs0 hs1 HA HBB HB1 HB2 HPA HPB
 generalize (w2.alloc (.cells #[.bool false, .slice none 0 0] 196)).alloc (.cells #[.bool false, .slice none 0 0] 196)=W at HG⊢
 generalize w2.heap.size=gq at HG⊢
 generalize w1.heap.size=gB at HG⊢
 generalize gB+1=rB at HG
 generalize w.heap.size+1=rA at HG
 obtain⟨dd,hdd⟩: ∃dd,decide (leN zs-leN ws<0)=dd:=⟨_,rfl⟩
 have HDD:=Lib.hid hdd
 clear hdd
 go_cut [60] (fun s wx=>s= .bool dd∧Hid (GR w w.heap.size rA cA gB rB cB gq (gq+1) zs ws wx))
 case first=>
  have a1:=HG.out.A.bi.c1
  have b1:=HG.out.B.bi.c1
  have HCm:=Lib.hid (fun W' (h:Below W.heap.size W W')=>natCmp_c _ _ _ _ zs ws W' (HG.out.A.sl.below h) (HG.out.B.sl.below h) HN.out.1 HN.out.2.2.1 HN.out.2.1 HN.out.2.2.2 (by omega) (by omega))
  cases dd
  case false=>
   as_aux_lemma=>
    have hs:=sgn_ge0 (of_decide_eq_false HDD.out)
    generalize sgn (leN zs-leN ws)=s at hs HCm
    go_quiet ((go_at_call 137;exact Calls.quiet_of (HCm.out _ (pw_below_drewN (Below.refl _ _) _))))
    go_wp2_with fail
    go_meet
    exact⟨rfl,HG.out.drewN _⟩
  case true=>
   as_aux_lemma=>
    have hs:=sgn_lt0 (of_decide_eq_true HDD.out)
    generalize sgn (leN zs-leN ws)=s at hs HCm
    go_quiet ((go_at_call 137;exact Calls.quiet_of (HCm.out _ (pw_below_drewN (Below.refl _ _) _))))
    go_wp2_with fail
    go_meet
    exact⟨rfl,HG.out.drewN _⟩
 case rest=>
 obtain⟨rfl,HG⟩:=hcut
 go_upto_if 60 with fail
 go_cut [11,12,13,14] (fun a b u v wx=>u= .pointer none∧v= .pointer none∧ ∃gA rA cA gB rB cB la y,a= .pointer (some ⟨gA,0,none⟩)∧b= .pointer (some ⟨gB,0,none⟩)∧Hid (GR w gA rA cA gB rB cB gq (gq+1) la [y] wx)∧Hid (GN la y))
 case first=>
  cases dd
  case true=>
   as_aux_lemma=>
    obtain⟨y,rfl,hn⟩:=gn_lt HN.out.1 HN.out.2.1 HN.out.2.2.1 HN.out.2.2.2 h1 h2 (of_decide_eq_true HDD.out) HO.out.1 HO.out.2
    have HHN:=Lib.hid hn
    clear hn
    go_wp2_with fail
    go_meet
    exact⟨rfl,rfl,_,_,_,_,_,_,_,_,rfl,rfl,HG.out.swap,HHN⟩
  case false=>
   as_aux_lemma=>
    obtain⟨y,rfl,hn⟩:=gn_ge HN.out.1 HN.out.2.1 HN.out.2.2.1 HN.out.2.2.2 h1 h2 (of_decide_eq_false HDD.out) HO.out.1 HO.out.2
    have HHN:=Lib.hid hn
    clear hn
    go_wp2_with fail
    go_meet
    exact⟨rfl,rfl,_,_,_,_,_,_,_,_,rfl,rfl,HG,HHN⟩
 case rest=>
  obtain⟨rfl,rfl,gA,rA,cA,gB,rB,cB,la,y,rfl,rfl,HG2,HGN⟩:=hcut
  clear HG
  go_wp2_with fail
  have a1:=HG2.out.A.bi.c1
  have b1:wc.cell? ⟨gB,1,none⟩=some (.slice (some ⟨rB,0,none⟩) 1 cB):=HG2.out.B.bi.c1
  have hx0:0<la.length:=List.length_pos_iff.2 HGN.out.ne
  refine wp_loop_rounds 1 ?_
  rw[rounds_succ]
  go_upto_if 128 with fail
  go_cut [11,12,13,14,17] (fun a b u v s17 wx=>u= .pointer none∧v= .pointer none∧ ∃gA rA cA gB vb lb x,a= .pointer (some ⟨gA,0,none⟩)∧b= .pointer (some ⟨gB,0,none⟩)∧Hid (GW w gA rA cA gB vb lb x wx))
  case first=>
   by_cases hl:la.length=1
   ·as_aux_lemma=>
    obtain⟨x,rfl,hgw⟩:=gw_single HG2.out HGN.out hl
    have HGW:=Lib.hid hgw
    clear hgw
    go_wp2_with fail
    go_meet
    exact⟨rfl,rfl,_,_,_,_,_,_,_,rfl,rfl,HGW⟩
   ·as_aux_lemma=>
    have h2:(1:Nat)<la.length:=by omega
    have HCE:=Lib.hid (euclidUpdate_c gq (gq+1) gA gB _ _ la y wc HG2.out.A.bi HG2.out.B.bi h2 HG2.out.A.len HGN.out.y0 (by rcases HGN.out.one with h|h;exact absurd h hl;exact h.2) HG2.out.q HG2.out.r (by omega) (by have:=HG2.out.oA;have:=HG2.out.A.gr;omega) (by have:=HG2.out.oB;have:=HG2.out.B.gr;omega))
    have HGL:=Lib.hid (fun u w1 hu hb=>gw_long (u:=u) (w1:=w1) HG2.out HGN.out hu hb)
    generalize wordL (leN la%y)=rl at HCE HGL
    go_wp2_with (go_at_call 200;with_reducible refine HCE.out.mono ?_;rintro e w3 ⟨rfl,⟨u,hu⟩,hb3⟩;have HGW:=Lib.hid (HGL.out u w3 hu hb3);clear hu hb3)
    go_meet
    exact⟨rfl,rfl,_,_,_,_,_,_,_,rfl,rfl,HGW⟩
  case rest=>
   obtain⟨rfl,rfl,gA,rA,cA,gB,vb,lb,x,rfl,rfl,HGW⟩:=hcut
   clear HG2 a1 b1
   have a1:wc.cell? ⟨gA,1,none⟩=some (.slice (some ⟨rA,0,none⟩) 1 cA):=HGW.out.A.bi.c1
   have b1:=HGW.out.B.c1
   have c1:=(HGW.out.low.cell (p:=⟨g,0,none⟩) hgl).trans c0
   have hk:=(HGW.out.low.block gz hgz).trans HZ.out
   have hne:gz≠gA:=by have:=HGW.out.lA;omega
   rcases HGW.out.num with⟨rfl,rfl⟩|⟨y,rfl,hbz,hy0,hy1⟩
   ·as_aux_lemma=>
    have HSet:=Lib.hid (intSet_c gA gz false false _ [1] wc HGW.out.A.bi hne (by simp) hk)
    have HLow:=Lib.hid HGW.out.low
    obtain⟨Ab,cb,rfl,_⟩:=HGW.out.B.sl.c
    simp only[List.length_nil] at b1
    clear HGW hk
    go_wp2_with (go_at_call 132;with_reducible refine HSet.out.mono ?_;rintro e w5 ⟨rfl,⟨u,hu⟩,hb5⟩;have HU:=Lib.hid hu;have HB5:=Lib.hid hb5;clear hu hb5)
    go_ret
    exact⟨rfl,⟨_,HU.out⟩,(HLow.out.mono (Nat.le_of_lt hgz)).trans HB5.out⟩
   ·as_aux_lemma=>
    have ha0:wc.cell? ⟨rA,0,none⟩=some (.int .u64 x):=by simpa using HGW.out.A.row.1 0 (by simp)
    have hf0:wc.frozen? ⟨rA,0,none⟩=false:=HGW.out.A.row.2 0 (by simp)
    obtain⟨Ab,cb,rfl,k1,k2,k3⟩:=HGW.out.B.sl
    obtain⟨bb,bo,rfl,_,_,k4⟩:=k3 (by simp)
    have hb0:wc.cell? ⟨bb,bo,none⟩=some (.int .u64 y):=by simpa using k4 0 (by simp)
    simp only[List.length_singleton] at b1 k1
    clear k2 k3 k4
    have HX:=Lib.hid (And.intro hbz (And.intro HGW.out.x0 (And.intro (show 0≤y by omega) hy1)))
    clear hbz hy0 hy1
    go_upto_region 24 with fail
    go_quiet (fail)
    go_wp2_with fail
    go_loopw [23,24] (fun a b wx=> ∃x y n,a= .int .u64 x∧b= .int .u64 y∧Hid (wx=wc.drewN n)∧Hid (Bez x y∧(0≤x∧x<18446744073709551616)∧0≤y∧y<18446744073709551616)) (fun _ b _=>(intOf b).toNat)
    case atStart=>exact⟨x,y,_,rfl,rfl,rfl,HX⟩
    case round=>
     obtain⟨x1,y1,n,rfl,rfl,hwx,HX1⟩:=hrel
     have hwx':=hwx.out
     subst hwx'
     by_cases hz:y1=0
     ·subst hz
      have hx1:x1=1:=HX1.out.1.zero HX1.out.2.1.1
      subst hx1
      have HLow:Hid (Below w.heap.size w (((wc.drewN n).setCell ⟨rA,0,none⟩ (.int .u64 1)))):=Lib.hid ((pw_below_drewN HGW.out.low _).setCell (by have:=HGW.out.lA;have:=HGW.out.A.gr;show _≤rA;omega) _)
      have HSet:=Lib.hid (intSet_c gA gz false false _ [1] ((wc.drewN n).setCell ⟨rA,0,none⟩ (.int .u64 1)) (oi_one (HGW.out.A.drewN n) 1 (by omega) (by omega)).bi hne (by simp) ((HLow.out.block gz hgz).trans HZ.out))
      have hne2:rA≠g:=by have:=HGW.out.lA;have:=HGW.out.A.gr;omega
      clear hk
      go_wp2_with (go_at_call 132;with_reducible refine HSet.out.mono ?_;rintro e w5 ⟨rfl,⟨u,hu⟩,hb5⟩;have HU:=Lib.hid hu;have HB5:=Lib.hid hb5;clear hu hb5)
      go_ret
      exact⟨rfl,⟨_,HU.out⟩,(HLow.out.mono (Nat.le_of_lt hgz)).trans HB5.out⟩
     ·have hy:=HX1.out.2.2
      obtain⟨z1,z2,z3,z4,z5⟩:=words_loop HX1.out.1 HX1.out.2.1 (by omega)
      have HZ2:Hid (Bez y1 (x1%y1)∧(0≤y1∧y1<18446744073709551616)∧0≤x1%y1∧x1%y1<18446744073709551616):=Lib.hid ⟨z1,⟨by omega,hy.2⟩,z2,by omega⟩
      have hyb:(y1==0)=false:=by simp[hz]
      have hyn:(y1 !=0)=true:=by simp[hz]
      have hlt2:(x1%y1).toNat<y1.toNat:=by omega
      have HLT2:=Lib.hid hlt2
      clear z1 hz hlt2
      go_wp2_with fail
      go_quiet (fail)
      go_wp2_with fail
      exact⟨⟨_,_,_,rfl,rfl,Lib.hid (drewN_two _ _ _),HZ2⟩,HLT2.out⟩
end Go.Proofs.YtkplnbjgkhmbcaaGreatDoor
