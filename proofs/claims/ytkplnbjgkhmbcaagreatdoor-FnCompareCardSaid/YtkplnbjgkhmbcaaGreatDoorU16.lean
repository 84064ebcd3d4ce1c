/- EqA -/
import Derived.Test.YtkplnbjgkhmbcaaGreatDoorU14
import Derived.Deep.RegionHeld3
namespace Go.Proofs.YtkplnbjgkhmbcaaGreatDoor
open Go.RowKit Go.Shelf Go.Proofs.YtkplnbjgkhmbcaaGreatDoorW.PrintWords Go.Proofs.YtkplnbjgkhmbcaaGreatDoorW.PrintLast Go.Proofs.YtkplnbjgkhmbcaaGreatDoorW.PrintMore Go.Proofs.YtkplnbjgkhmbcaaGreatDoor.PFnCompare Go.Proofs.YtkplnbjgkhmbcaaGreatDoor.PCmp Go.Proofs.YtkplnbjgkhmbcaaGreatDoor.PbytesOf
set_option linter.unusedVariables false
set_option linter.unusedSimpArgs false
theorem threewayG_c (op c:Int) (w:World) (h:OpOk op):Calls Tryz.prog 61 #[.int .i8 op, .int .i64 c] w fun e w'=>e= .returned (.bool (tw op c))∧w'=w:=by
 unfold OpOk at h
 rcases h with rfl|rfl|rfl|rfl|rfl|rfl
 all_goals
  go_enter Tryz.func61,Tryz.ntmps61
  go_wp2
  go_ret
  exact⟨rfl,rfl⟩
def CmpR (o:Option Bool) (e:Ending):Prop:=
 match o with
 |some b=>e= .returned (.tuple #[.bool b, .nilIface])
 |none=> ∃T a,e= .returned (.tuple #[.bool false, .iface T a])
def RowC (w:World) (A:Option Addr) (us:List Value):Prop:=us≠[]→ ∃M o,A=some ⟨M,o,none⟩∧ ∀i (h:i<us.length),w.cell? ⟨M,o+i,none⟩=some us[i]
theorem RowC.below {w w':World} {A:Option Addr} {us:List Value} (h:RowC w A us) (hb:Below w.heap.size w w'):RowC w' A us:=fun hne=>by
 obtain⟨M,o,e,hc⟩:=h hne
 exact⟨M,o,e,fun i hi=>(hb.cell (p:=⟨M,o+i,none⟩) (lt_of_cell (hc i hi))).trans (hc i hi)⟩
theorem RowV.rowC {B:Nat} {w:World} {P:Value→VT→Prop} {sl:Value} {xs:List VT} (h:RowV B w P sl xs): ∃A c us,sl= .slice A us.length c∧us.length=xs.length∧RowC w A us∧ ∀i (h1:i<us.length) (h2:i<xs.length),P us[i] xs[i]:=by
 obtain⟨A,c,us,e,_,hl,hr,hP⟩:=h
 refine⟨A,c,us,e,hl,fun hne=>?_,hP⟩
 obtain⟨M,o,e,_,hc⟩:=hr hne
 exact⟨M,o,e,hc⟩
def firstNo (E:Nat→Bool):Nat→Nat→Option Nat
 |0,_=>none
 |k+1,i=>if E i then firstNo E k (i+1) else some i
theorem firstNo_none {E:Nat→Bool}: ∀(k i:Nat),(∀q,i≤q→q<i+k→E q=true)→firstNo E k i=none
 |0,_,_=>rfl
 |k+1,i,h=>by rw[firstNo,if_pos (h i (Nat.le_refl _) (by omega))];exact firstNo_none k (i+1) fun q h1 h2=>h q (by omega) (by omega)
theorem firstNo_some {E:Nat→Bool} {j:Nat} (hj:E j=false): ∀(k i:Nat),i≤j→j<i+k→(∀q,i≤q→q<j→E q=true)→firstNo E k i=some j
 |0,i,h1,h2,_=>by omega
 |k+1,i,h1,h2,h=>by
  by_cases e:i=j
  ·subst e;rw[firstNo,if_neg (by rw[hj];decide)]
  ·rw[firstNo,if_pos (h i (Nat.le_refl _) (by omega))];exact firstNo_some hj k (i+1) (by omega) (by omega) fun q a b=>h q (by omega) b
def sliceO (op:Int) (n m:Nat) (E:Nat→Bool) (O:Nat→Option Bool):Option Bool:=
 if n≠m∧(op=37∨op=38) then some (op==38)
 else match firstNo E (min n m) 0 with
  |none=>some (tw op ((n:Int)-m))
  |some j=>if op=37 then some false else if op=38 then some true else O j
theorem sliceO_len {op:Int} {n m:Nat} {E:Nat→Bool} {O:Nat→Option Bool} (h:n≠m∧(op=37∨op=38)):sliceO op n m E O=some (op==38):=by
 unfold sliceO
 rw[if_pos h]
theorem sliceO_all {op:Int} {n m:Nat} {E:Nat→Bool} {O:Nat→Option Bool} (h: ¬(n≠m∧(op=37∨op=38))) (ha: ∀q,q<min n m→E q=true):sliceO op n m E O=some (tw op ((n:Int)-m)):=by
 unfold sliceO
 rw[if_neg h,firstNo_none _ _ fun q _ hq=>ha q (by omega)]
theorem sliceO_at {op:Int} {n m j:Nat} {E:Nat→Bool} {O:Nat→Option Bool} (h: ¬(n≠m∧(op=37∨op=38))) (h1:j<n) (h2:j<m) (hj:E j=false) (ha: ∀q,q<j→E q=true):sliceO op n m E O=if op=37 then some false else if op=38 then some true else O j:=by
 unfold sliceO
 rw[if_neg h,firstNo_some hj _ _ (Nat.zero_le _) (by omega) fun q _ hq=>ha q hq]
set_option maxRecDepth 100000 in
set_option maxHeartbeats 1000000 in
theorem sliceCompare_c (op d d':Int) (A B:Option Addr) (c1 c2:Nat) (us vs:List Value) (E:Nat→Bool) (O:Nat→Option Bool) (w:World) (ho:OpOk op) (hd:d-1=d') (hw:IntKind.i64.wrap d'=d') (h1:RowC w A us) (h2:RowC w B vs) (hn1:us.length≤1000) (hn2:vs.length≤1000)
 (i1: ∀i (h:i<us.length),∃T x,us[i]= .iface T x) (i2: ∀i (h:i<vs.length),∃T x,vs[i]= .iface T x)
 (hE: ∀i (h1:i<us.length) (h2:i<vs.length) W,Below w.heap.size w W→Calls Tryz.prog 149 #[us[i],vs[i], .int .i64 d'] W fun e W'=>e= .returned (.tuple #[.bool (E i), .nilIface])∧Below W.heap.size W W')
 (hO: ¬op=37→ ¬op=38→ ∀i (h1:i<us.length) (h2:i<vs.length) W,Below w.heap.size w W→Calls Tryz.prog 29 #[.int .i8 op,us[i],vs[i], .int .i64 d'] W fun e W'=>CmpR (O i) e∧Below W.heap.size W W'):
 Calls Tryz.prog 284 #[.int .i8 op, .slice A us.length c1, .slice B vs.length c2, .int .i64 d] w fun e w'=>CmpR (sliceO op us.length vs.length E O) e∧Below w.heap.size w w':=by
 have HE:=Lib.hid hE
 have HO:=Lib.hid hO
 have HR1:=Lib.hid h1
 have HR2:=Lib.hid h2
 have HI:=Lib.hid (And.intro i1 i2)
 have HT:=Lib.hid (fun c w=>threewayG_c op c w ho)
 have hdw:IntKind.i64.wrap (d-1)=d':=by rw[hd];exact hw
 have HOK:=Lib.hid ho
 clear hE hO h1 h2 i1 i2 ho hd hw
 by_cases hlen:us.length≠vs.length∧(op=37∨op=38)
 ·have hq:((us.length:Int)==vs.length)=false:=by simp;omega
  have hq2:((us.length:Int) !=vs.length)=true:=by simp;omega
  have HL:=Lib.hid hlen
  obtain⟨_,hop⟩:=hlen
  rcases hop with rfl|rfl
  all_goals
   go_enter Tryz.func284,Tryz.ntmps284
   go_wp2
   go_ret2
   exact⟨by rw[sliceO_len ⟨HL.out.1,by first|exact Or.inl rfl|exact Or.inr rfl⟩];rfl,Below.refl _ _⟩
 ·have HL:=Lib.hid hlen
  have key: ∀(hsel:(us.length=vs.length)∨(¬op=37∧ ¬op=38)),Calls Tryz.prog 284 #[.int .i8 op, .slice A us.length c1, .slice B vs.length c2, .int .i64 d] w fun e w'=>CmpR (sliceO op us.length vs.length E O) e∧Below w.heap.size w w':=by
   intro hsel
   have hcond:(((us.length:Int) !=vs.length)=false)∨(((us.length:Int) !=vs.length)=true∧(op==37)=false∧(op==38)=false):=by
    by_cases h:us.length=vs.length
    ·left;simp[h]
    ·right
     rcases hsel with h'|⟨a,b⟩
     ·exact absurd h' h
     ·exact⟨by simp;omega,by simp[a],by simp[b]⟩
   clear hsel hlen
   rcases hcond with q1|⟨q1,q2,q3⟩
   all_goals
    go_enter Tryz.func284,Tryz.ntmps284
    go_wp2_with fail
    go_loopw [10] (fun i wr=> ∃j:Nat,j≤us.length∧j≤vs.length∧i= .int .i64 (j:Int)∧Hid (∀q,q<j→E q=true)∧Hid (Below w.heap.size w wr)) (fun i _=>us.length-(intOf i).toNat)
    case atStart=>exact⟨0,Nat.zero_le _,Nat.zero_le _,rfl,Lib.hid fun q h=>absurd h (Nat.not_lt_zero _),Lib.hid (Below.refl _ _)⟩
    case round=>
     obtain⟨j,hj1,hj2,rfl,HQ,HB⟩:=hrel
     by_cases hlt:j<us.length∧j<vs.length
     ·obtain⟨l1,l2⟩:=hlt
      obtain⟨M1,o1,rfl,r1⟩:=HR1.out (fun e=>by rw[e] at l1;simp at l1)
      obtain⟨M2,o2,rfl,r2⟩:=HR2.out (fun e=>by rw[e] at l2;simp at l2)
      have k1:=(HB.out.cell (p:=⟨M1,o1+j,none⟩) (lt_of_cell (r1 j l1))).trans (r1 j l1)
      have k2:=(HB.out.cell (p:=⟨M2,o2+j,none⟩) (lt_of_cell (r2 j l2))).trans (r2 j l2)
      have b1:=lt_of_cell (r1 j l1)
      have b2:=lt_of_cell (r2 j l2)
      obtain⟨T1,x1,e1⟩:=HI.out.1 j l1
      obtain⟨T2,x2,e2⟩:=HI.out.2 j l2
      have HEj:=Lib.hid (HE.out j l1 l2)
      have HOj:=Lib.hid (fun a b=>HO.out a b j l1 l2)
      rw[e1,e2] at HEj HOj
      rw[e1] at k1
      rw[e2] at k2
      obtain⟨E0,hE0⟩: ∃b,E j=b:=⟨_,rfl⟩
      have HEQ:=Lib.hid hE0
      rw[hE0] at HEj
      have HK:Hid (∀W,Below w.heap.size w W→W.cell? ⟨M1,o1+j,none⟩=some (.iface T1 x1)∧W.cell? ⟨M2,o2+j,none⟩=some (.iface T2 x2)):=Lib.hid fun W hW=>⟨by rw[hW.cell (p:=⟨M1,o1+j,none⟩) b1,r1 j l1,e1],by rw[hW.cell (p:=⟨M2,o2+j,none⟩) b2,r2 j l2,e2]⟩
      clear r1 r2 e1 e2 hE0
      go_upto_region 6 with fail
      go_region_held3 (fun W=>W.cell? ⟨M1,o1+j,none⟩=some (.iface T1 x1)∧W.cell? ⟨M2,o2+j,none⟩=some (.iface T2 x2)) (first|(with_reducible exact⟨k1,k2⟩)|exact HK.out _ HB.out.drew|exact HK.out _ HB.out) (first|(go_at_call 149;(with_reducible refine(HEj.out _ (by first|exact HB.out|exact HB.out.drew)).mono ?_);rintro e w1 ⟨rfl,hb1⟩;(replace HB:Hid (Below w.heap.size w w1):=Lib.hid (by first|exact HB.out.trans (hb1.mono HB.out.size)|exact HB.out.drew.trans (hb1.mono HB.out.size)));clear hb1))
      clear k1 k2
      cases E0
      ·have hOP:=HOK.out
       unfold OpOk at hOP
       rcases hOP with e|e|e|e|e|e
       all_goals
        have HSO:=Lib.hid (sliceO_at (O:=O) (op:=op) HL.out l1 l2 HEQ.out HQ.out)
        subst e
       all_goals first|(exfalso;revert q2;decide)|(exfalso;revert q3;decide)|skip
       all_goals first
        |(have HS1:Hid (sliceO 37 us.length vs.length E O=some false):=Lib.hid (HSO.out.trans (if_pos rfl))
          clear HSO HL
          go_wp2
          go_ret2
          exact⟨by rw[HS1.out];rfl,HB.out⟩)
        |(have HS1:Hid (sliceO 38 us.length vs.length E O=some true):=Lib.hid (HSO.out.trans ((if_neg (by decide)).trans (if_pos rfl)))
          clear HSO HL
          go_wp2
          go_ret2
          exact⟨by rw[HS1.out];rfl,HB.out⟩)
        |(obtain⟨o0,ho0⟩: ∃o,O j=o:=⟨_,rfl⟩
          have hOx:=HOj.out (by decide) (by decide)
          rw[ho0] at hOx
          have HOx:=Lib.hid hOx
          have HS1:=Lib.hid ((HSO.out.trans ((if_neg (by decide)).trans (if_neg (by decide)))).trans ho0)
          clear hOx ho0 HSO HL
          have k1:=(HK.out _ HB.out).1
          have k2:=(HK.out _ HB.out).2
          cases o0
          ·go_upto_region 11 with fail
           go_region_held3 (fun W=>W.cell? ⟨M1,o1+j,none⟩=some (.iface T1 x1)∧W.cell? ⟨M2,o2+j,none⟩=some (.iface T2 x2)) (first|(with_reducible exact⟨k1,k2⟩)|exact HK.out _ HB.out.drew|exact HK.out _ HB.out) (first|(go_at_call 29;(with_reducible refine(HOx.out _ (by first|exact HB.out|exact HB.out.drew)).mono ?_);rintro e w1 ⟨⟨T3,a3,rfl⟩,hb1⟩;(replace HB:Hid (Below w.heap.size w w1):=Lib.hid (by first|exact HB.out.trans (hb1.mono HB.out.size)|exact HB.out.drew.trans (hb1.mono HB.out.size)));clear hb1))
           go_wp2
           go_ret2
           exact⟨by rw[HS1.out];exact⟨_,_,rfl⟩,HB.out⟩
          ·go_upto_region 11 with fail
           go_region_held3 (fun W=>W.cell? ⟨M1,o1+j,none⟩=some (.iface T1 x1)∧W.cell? ⟨M2,o2+j,none⟩=some (.iface T2 x2)) (first|(with_reducible exact⟨k1,k2⟩)|exact HK.out _ HB.out.drew|exact HK.out _ HB.out) (first|(go_at_call 29;(with_reducible refine(HOx.out _ (by first|exact HB.out|exact HB.out.drew)).mono ?_);rintro e w1 ⟨rfl,hb1⟩;(replace HB:Hid (Below w.heap.size w w1):=Lib.hid (by first|exact HB.out.trans (hb1.mono HB.out.size)|exact HB.out.drew.trans (hb1.mono HB.out.size)));clear hb1))
           go_wp2
           go_ret2
           exact⟨by rw[HS1.out];rfl,HB.out⟩)
      ·go_wp2
       go_roundw
       case rel=>exact⟨j+1,by omega,by omega,by go_num,Lib.hid fun q h=>by rcases Nat.lt_succ_iff_lt_or_eq.1 h with h|h;exact HQ.out q h;rw[h];exact HEQ.out,HB⟩
       case measure=>simp[intOf];omega
     ·have hall: ∀q,q<min us.length vs.length→E q=true:=fun q hq=>HQ.out q (by omega)
      have HA:=Lib.hid (sliceO_all (O:=O) (op:=op) (by exact HL.out) hall)
      clear hall
      by_cases l1:j<us.length
      ·have l2: ¬j<vs.length:=fun h=>hlt ⟨l1,h⟩
       have l2': ¬((j:Int)<vs.length):=by omega
       go_wp2_with (go_at_call 61;(with_reducible refine(HT.out _ _).mono ?_);rintro e w2 ⟨rfl,hw2⟩;have HW:=Lib.hid hw2;clear hw2)
       go_ret2
       exact⟨by rw[HA.out];rfl,by rw[HW.out];exact HB.out⟩
      ·have l1': ¬((j:Int)<us.length):=by omega
       go_wp2_with (go_at_call 61;(with_reducible refine(HT.out _ _).mono ?_);rintro e w2 ⟨rfl,hw2⟩;have HW:=Lib.hid hw2;clear hw2)
       go_ret2
       exact⟨by rw[HA.out];rfl,by rw[HW.out];exact HB.out⟩
  refine key ?_
  by_cases h:us.length=vs.length
  ·exact Or.inl h
  ·exact Or.inr ⟨fun e=>HL.out ⟨h,Or.inl e⟩,fun e=>HL.out ⟨h,Or.inr e⟩⟩
end Go.Proofs.YtkplnbjgkhmbcaaGreatDoor
