/- ValA ValB ValC LawBase LawType HtC HtD CdA SpecOrd SpecOrd2 -/
import Derived.Test.YtkplnbjgkhmbcaaGreatDoorU16
import Derived.Test.YtkplnbjgkhmbcaaGreatDoorU09
import Derived.Test.YtkplnbjgkhmbcaaGreatDoorU19
import Derived.Test.YtkplnbjgkhmbcaaGreatDoorU18
import Derived.Test.YtkplnbjgkhmbcaaGreatDoorU12
import Derived.Test.YtkplnbjgkhmbcaaGreatDoorU13
import Derived.Test.YtkplnbjgkhmbcaaGreatDoorU14
import Derived.Test.YtkplnbjgkhmbcaaGreatDoorU08
namespace Go.Proofs.YtkplnbjgkhmbcaaGreatDoor
open Go.RowKit Go.Shelf Go.Proofs.YtkplnbjgkhmbcaaGreatDoorW.PrintWords Go.Proofs.YtkplnbjgkhmbcaaGreatDoorW.PrintLast Go.Proofs.YtkplnbjgkhmbcaaGreatDoorW.PrintMore Go.Proofs.YtkplnbjgkhmbcaaGreatDoor.PFnCompare Go.Proofs.YtkplnbjgkhmbcaaGreatDoor.PCmp Go.Proofs.YtkplnbjgkhmbcaaGreatDoor.PbytesOf
set_option linter.unusedVariables false
set_option linter.unusedSimpArgs false
structure VRow (w0:World) (n M N:Nat) (xs:List VT) (us:List Value) (w:World):Prop where
 low:Below w0.heap.size w0 w
 hM:w0.heap.size≤M
 lt:M<w.heap.size
 cl: ∀i (h:i<us.length),w.cell? ⟨M,i,none⟩=some us[i]
 sv: ∀i (h:i<us.length) (h2:i<xs.length),PV (M+1) n w us[i] xs[i]
 room: ∀i,i<N→(w.cell? ⟨M,i,none⟩).isSome=true∧w.frozen? ⟨M,i,none⟩=false
theorem VRow.below {w0 w w':World} {n M N:Nat} {xs:List VT} {us:List Value} (h:VRow w0 n M N xs us w) (hb:Below w.heap.size w w'):VRow w0 n M N xs us w':=
 ⟨h.low.trans (hb.mono h.low.size),h.hM,Nat.lt_of_lt_of_le h.lt hb.size,fun i hi=>(hb.cell (p:=⟨M,i,none⟩) h.lt).trans (h.cl i hi),fun i h1 h2=>(h.sv i h1 h2).below hb,fun i hi=>⟨by rw[hb.cell (p:=⟨M,i,none⟩) h.lt];exact(h.room i hi).1,(hb.frozen (p:=⟨M,i,none⟩) h.lt).trans (h.room i hi).2⟩⟩
theorem vrow_start (w:World) (n N:Nat) (xs:List VT) (e:TypeId):VRow w n w.heap.size N xs [] (w.alloc (.cells (madeCells #[.nilIface] N) e)):=by
 have h:=so_start w N e
 exact⟨h.low,h.hM,h.lt,(fun i h=>absurd h (Nat.not_lt_zero _)),(fun i h=>absurd h (Nat.not_lt_zero _)),h.room⟩
theorem VRow.push {w0 w:World} {n M N:Nat} {xs:List VT} {us:List Value} {u:Value} (h:VRow w0 n M N xs us w) (hk:us.length<N) (hx:us.length<xs.length) (hs:PV (M+1) n w u xs[us.length]):VRow w0 n M N xs (us++[u]) (w.setCell ⟨M,us.length,none⟩ u):=by
 have hcl: ∀i (h1:i<(us++[u]).length),(w.setCell ⟨M,us.length,none⟩ u).cell? ⟨M,i,none⟩=some (us++[u])[i]:=by
  intro i h1
  simp at h1
  by_cases hi:i<us.length
  ·rw[World.cell?_setCell_other (h:=by intro e;injection e with _ e;omega),h.cl i hi,List.getElem_append_left hi]
  ·have:i=us.length:=by omega
   subst this
   obtain⟨x,hx⟩:=Option.isSome_iff_exists.1 (h.room us.length hk).1
   rw[World.cell?_setCell_same (h:=hx)];simp
 refine⟨h.low.setCell (p:=⟨M,us.length,none⟩) h.hM _,h.hM,by simpa [World.setCell] using h.lt,hcl,?_,?_⟩
 ·intro i h1 h2
  simp at h1
  by_cases hi:i<us.length
  ·rw[List.getElem_append_left hi]
   exact(h.sv i hi h2).setCell (p:=⟨M,us.length,none⟩) _ (Nat.lt_succ_self M)
  ·have e:i=us.length:=by omega
   subst e
   have e2:(us++[u])[us.length]=u:=by simp
   rw[e2]
   exact hs.setCell (p:=⟨M,us.length,none⟩) _ (Nat.lt_succ_self M)
 ·intro i hi
  refine⟨?_,by rw[World.frozen?_setCell];exact(h.room i hi).2⟩
  by_cases he:i=us.length
  ·subst he
   rw[hcl us.length (by simp)];rfl
  ·rw[World.cell?_setCell_other (h:=by intro e;injection e with _ e;omega)]
   exact(h.room i hi).1
theorem VRow.rowV {w0 w:World} {n M N:Nat} {xs:List VT} {us:List Value} (h:VRow w0 n M N xs us w) (hl:us.length=xs.length):RowV w0.heap.size w (PV w0.heap.size n w) (.slice (some ⟨M,0,none⟩) xs.length xs.length) xs:=
 ⟨some ⟨M,0,none⟩,us.length,us,by rw[hl],Nat.le_refl _,hl,fun _=>⟨M,0,rfl,h.hM,fun i hi=>by rw[Nat.zero_add];exact h.cl i hi⟩,fun i h1 h2=>PV.lower (Nat.le_trans h.hM (Nat.le_succ M)) (h.sv i h1 h2)⟩
set_option maxRecDepth 100000 in
set_option maxHeartbeats 1000000 in
theorem values_c (n:Nat) (A:Option Addr) (c:Nat) (xs:List VT) (w:World) (h:kV.C w A xs.length xs) (hn:xs.length≤1000)
 (hV: ∀i (hi:i<xs.length) u W,Below w.heap.size w W→VR W u xs[i]→Calls Tryz.prog 27 #[u] W fun e W'=> ∃v,e= .returned (.tuple #[v, .bool true])∧PV W.heap.size n W' v xs[i]∧Below W.heap.size W W'):
 Calls Tryz.prog 55 #[.slice A xs.length c] w fun e w'=> ∃us,us.length=xs.length∧e= .returned (.tuple #[.slice (some ⟨w.heap.size,0,none⟩) xs.length xs.length, .bool true])∧VRow w n w.heap.size xs.length xs us w':=by
 obtain⟨i0,hi0,hz0,hz1,hz2⟩:=info_parts valInfo
 have hmk:=run_make (P:=Tryz.prog) w 94 57 i0 .nilIface Tryz.underlying94 hi0 hz0 .i64 .i64 0 xs.length (by omega) (by omega) (by rw[hz2];omega) (by omega)
 simp only[hz1,Nat.mul_one,Int.toNat_natCast,Int.toNat_zero] at hmk
 have hcl:(Value.nilIface).cells=#[.nilIface]:=rfl
 rw[hcl] at hmk
 have HS0:=Lib.hid (vrow_start w n xs.length xs 57)
 have HK:=Lib.hid (fun i hi=>kid_at h i hi rfl)
 have HV:=Lib.hid hV
 clear hcl hz0 hz1 hz2 hi0 h hV
 go_enter Tryz.func55,Tryz.ntmps55
 go_wp2_with fail
 clear hmk
 go_loopw [4,14] (fun out i wr=> ∃(j:Nat) (us:List Value),j≤xs.length∧i= .int .i64 (j:Int)∧us.length=j∧out= .slice (some ⟨w.heap.size,0,none⟩) j xs.length∧Hid (VRow w n w.heap.size xs.length xs us wr)) (fun _ i _=>xs.length-(intOf i).toNat)
 case atStart=>exact⟨0,[],Nat.zero_le _,rfl,rfl,rfl,HS0⟩
 case round=>
  obtain⟨j,us,hj,rfl,hu,rfl,HS⟩:=hrel
  by_cases hlt:j<xs.length
  ·obtain⟨b,o,A2,c2,A5,c5,rfl,hb,k0,k1,k2,k3,k4,k5,hVR⟩:=HK.out j hlt
   have hB:=HS.out.low
   have x0:=(hB.cell (p:=⟨b,o+j*6,none⟩) hb).trans k0
   have x1:=(hB.cell (p:=⟨b,o+j*6+1,none⟩) hb).trans k1
   have x2:=(hB.cell (p:=⟨b,o+j*6+2,none⟩) hb).trans k2
   have x3:=(hB.cell (p:=⟨b,o+j*6+3,none⟩) hb).trans k3
   have x4:=(hB.cell (p:=⟨b,o+j*6+4,none⟩) hb).trans k4
   have x5:=(hB.cell (p:=⟨b,o+j*6+5,none⟩) hb).trans k5
   have HSc:=Lib.hid (fun W (hW:Below w.heap.size w W)=>HV.out j hlt _ W hW (hVR.below hW))
   have HB0:Hid (∀o,Below w.heap.size w (wr.alloc o)):=Lib.hid fun o=>hB.alloc hB.size o
   have HBr:Hid (∀o,Below wr.heap.size wr (wr.alloc o)):=Lib.hid fun o=>(Below.refl _ wr).alloc (Nat.le_refl _) o
   clear k0 k1 k2 k3 k4 k5 hVR hB
   have hMr:=HS.out.lt
   have hrm:=HS.out.room j hlt
   go_wp2_with (first|(at_builtin;refine wpList_append_run rfl _ _ _ rfl _ _ _ rfl rfl happ.out ?_)|(go_at_call 27;(with_reducible refine(HSc.out _ (HB0.out _)).mono ?_);rintro e w3 ⟨u,rfl,hsv,hb3⟩;obtain⟨T,x,rfl⟩:=hsv.iface;have HVV:=Lib.hid (PV.lower (Nat.lt_of_lt_of_le hMr (HBr.out _).size) hsv);have HB3:=Lib.hid ((HBr.out _).trans (hb3.mono (HBr.out _).size));have happ:=Lib.hid (app_one w3 w.heap.size j xs.length T x hlt (Nat.lt_of_lt_of_le hMr HB3.out.size) ⟨by rw[HB3.out.cell (p:=⟨w.heap.size,j,none⟩) hMr];exact hrm.1,(HB3.out.frozen (p:=⟨w.heap.size,j,none⟩) hMr).trans hrm.2⟩);clear hsv hb3))
   go_roundw
   case rel=>
    subst hu
    have hq:=((HS.out.below HB3.out).below ((Below.refl _ _).alloc (Nat.le_refl _) (.cells #[.iface T x] 57))).push hlt hlt (HVV.out.below ((Below.refl _ _).alloc (Nat.le_refl _) (.cells #[.iface T x] 57)))
    exact⟨us.length+1,us++[.iface T x],by omega,by go_num,by simp,rfl,Lib.hid hq⟩
   case measure=>simp[intOf];omega
  ·have hje:j=xs.length:=by omega
   subst hje
   go_wp2
   go_ret2
   exact⟨us,hu,rfl,HS.out⟩
theorem setKey_c (g:Nat) (es:List HEnt) (TK TV:TypeId) (kx vx:Value) (h:Int) (w0 w:World) (hg:w0.heap.size≤g) (hb0:Below w0.heap.size w0 w) (ht:HTab w g 183 (!es.isEmpty) es 0) (hk:es.length<8)
 (hH:HashC w0 (.iface TK kx) h) (hI: ∀j (hj:j<es.length),(∃T x,es[j].k= .iface T x)∧ ¬es[j].h=0)
 (hE: ∀j (hj:j<es.length),es[j].h=(if h=0 then 1 else h)→ ∀W,Below w0.heap.size w0 W→Calls Tryz.prog 121 #[.iface TK kx,es[j].k] W fun e W'=>e= .returned (.tuple #[.bool false, .nilIface])∧Below W.heap.size W W'):
 Calls Tryz.prog 93 #[.pointer (some ⟨g,0,none⟩), .iface TK kx, .iface TV vx] w fun e w'=>e= .returned .nilIface∧HTab w' g 183 true (es++[⟨if h=0 then 1 else h, .iface TK kx, .iface TV vx⟩]) 0∧Below g w w':=by
 have HI:=Lib.hid (insert_c g 183 es TK TV kx vx h w0 w hg hb0 ht hk hH hI hE)
 have c0:=ht.c0
 obtain⟨hh,hhh⟩: ∃hh,(if h=0 then 1 else h)=hh:=⟨_,rfl⟩
 rw[hhh] at HI⊢
 clear hb0 ht hH hI hE hk hhh
 go_enter Tryz.func93,Tryz.ntmps93
 go_wp2_with (go_at_call 131;(with_reducible refine HI.out.mono ?_);rintro e w1 ⟨rfl,h1,hb1⟩;have HE:=Lib.hid (And.intro h1 hb1);clear h1 hb1)
 go_ret
 exact⟨rfl,HE.out⟩
theorem setInsert_c (g:Nat) (es:List HEnt) (TK:TypeId) (kx:Value) (h:Int) (w0 w:World) (hg:w0.heap.size≤g) (hb0:Below w0.heap.size w0 w) (ht:HTab w g 185 (!es.isEmpty) es 0) (hk:es.length<8)
 (hH:HashC w0 (.iface TK kx) h) (hI: ∀j (hj:j<es.length),(∃T x,es[j].k= .iface T x)∧ ¬es[j].h=0)
 (hE: ∀j (hj:j<es.length),es[j].h=(if h=0 then 1 else h)→ ∀W,Below w0.heap.size w0 W→Calls Tryz.prog 121 #[.iface TK kx,es[j].k] W fun e W'=>e= .returned (.tuple #[.bool false, .nilIface])∧Below W.heap.size W W'):
 Calls Tryz.prog 95 #[.pointer (some ⟨g,0,none⟩), .iface TK kx] w fun e w'=>e= .returned .nilIface∧HTab w' g 185 true (es++[⟨if h=0 then 1 else h, .iface TK kx, .iface 137 (.int .u8 0)⟩]) 0∧Below g w w':=by
 have HI:=Lib.hid (insert_c g 185 es TK 137 kx (.int .u8 0) h w0 w hg hb0 ht hk hH hI hE)
 have c0:=ht.c0
 obtain⟨hh,hhh⟩: ∃hh,(if h=0 then 1 else h)=hh:=⟨_,rfl⟩
 rw[hhh] at HI⊢
 clear hb0 ht hH hI hE hk hhh
 go_enter Tryz.func95,Tryz.ntmps95
 go_wp2_with (go_at_call 131;(with_reducible refine HI.out.mono ?_);rintro e w1 ⟨rfl,h1,hb1⟩;have HE:=Lib.hid (And.intro h1 hb1);clear h1 hb1)
 go_ret
 exact⟨rfl,HE.out⟩
theorem dictLen_c (g:Nat) (tab:Bool) (es:List HEnt) (it:Int) (w:World) (ht:HTab w g 183 tab es it) (hk:es.length≤8):Calls Tryz.prog 94 #[.pointer (some ⟨g,0,none⟩)] w fun e w'=>e= .returned (.int .i64 es.length)∧w'=w:=by
 have c42:=ht.c42
 clear ht
 go_enter Tryz.func94,Tryz.ntmps94
 go_wp2
 go_ret
 exact⟨rfl,rfl⟩
theorem setLen_c (g:Nat) (tab:Bool) (es:List HEnt) (it:Int) (w:World) (ht:HTab w g 185 tab es it) (hk:es.length≤8):Calls Tryz.prog 96 #[.pointer (some ⟨g,0,none⟩)] w fun e w'=>e= .returned (.int .i64 es.length)∧w'=w:=by
 have c42:=ht.c42
 clear ht
 go_enter Tryz.func96,Tryz.ntmps96
 go_wp2
 go_ret
 exact⟨rfl,rfl⟩
theorem hkey_ne (y:VT): ¬hkey y=0:=by
 unfold hkey
 split
 ·decide
 ·assumption
structure Ents (xs:List VT) (us:List Value) (es:List HEnt):Prop where
 k: ∀i (h:i<es.length) (h1:i*2<us.length),es[i].k=us[i*2]
 v: ∀i (h:i<es.length) (h1:i*2+1<us.length),es[i].v=us[i*2+1]
 h: ∀i (h:i<es.length) (h1:i*2<xs.length),es[i].h=hkey xs[i*2]
theorem Ents.nil (xs:List VT) (us:List Value):Ents xs us []:=⟨fun i h=>absurd h (Nat.not_lt_zero _),fun i h=>absurd h (Nat.not_lt_zero _),fun i h=>absurd h (Nat.not_lt_zero _)⟩
theorem Ents.push {xs:List VT} {us:List Value} {es:List HEnt} (h:Ents xs us es) (e:HEnt) (hk: ∀(h1:es.length*2<us.length),e.k=us[es.length*2]) (hv: ∀(h1:es.length*2+1<us.length),e.v=us[es.length*2+1]) (hh: ∀(h1:es.length*2<xs.length),e.h=hkey xs[es.length*2]):Ents xs us (es++[e]):=by
 refine⟨fun i hi h1=>?_,fun i hi h1=>?_,fun i hi h1=>?_⟩
 all_goals
  have hi':i<es.length+1:=by simpa using hi
  by_cases hlt:i<es.length
 ·rw[List.getElem_append_left hlt];exact h.k i hlt h1
 ·have e2:i=es.length:=by omega
  subst e2
  rw[List.getElem_append_right (Nat.le_refl _)]
  simpa using hk h1
 ·rw[List.getElem_append_left hlt];exact h.v i hlt h1
 ·have e2:i=es.length:=by omega
  subst e2
  rw[List.getElem_append_right (Nat.le_refl _)]
  simpa using hv h1
 ·rw[List.getElem_append_left hlt];exact h.h i hlt h1
 ·have e2:i=es.length:=by omega
  subst e2
  rw[List.getElem_append_right (Nat.le_refl _)]
  simpa using hh h1
def EntS (xs:List VT) (us:List Value) (es:List HEnt):Prop:= ∀i (h:i<es.length) (h1:i<us.length) (h2:i<xs.length),es[i].k=us[i]∧es[i].v= .iface 137 (.int .u8 0)∧es[i].h=hkey xs[i]
theorem isEmpty_push (es:List HEnt) (e:HEnt):(!(es++[e]).isEmpty)=true:=by cases es<;>rfl
theorem key_new {n B:Nat} {w0:World} {us:List Value} {xs:List VT} {es:List HEnt} {step:Nat} (hs:0<step) (hl:us.length=xs.length) (hn:n≤8) (hT:Thr w0) (hL:Lim w0)
 (hP: ∀i (h1:i<us.length) (h2:i<xs.length),PV B n w0 us[i] xs[i]) (hc: ∀i (h:i*step<xs.length),HC n xs[i*step]) (hd:Dist step xs)
 (hk: ∀i (h:i<es.length) (h1:i*step<us.length),es[i].k=us[i*step]) (hj:es.length*step<xs.length):
 ∀j (hj2:j<es.length) (hu:es.length*step<us.length),∀W,Below w0.heap.size w0 W→Calls Tryz.prog 121 #[us[es.length*step],es[j].k] W fun e W'=>e= .returned (.tuple #[.bool false, .nilIface])∧Below W.heap.size W W':=by
 intro j hj2 hu W hW
 have hjs:j*step<es.length*step:=Nat.mul_lt_mul_of_pos_right hj2 hs
 have hju:j*step<us.length:=by omega
 have hjx:j*step<xs.length:=by omega
 rw[hk j hj2 hju]
 have hf:eqV 9 xs[es.length*step] xs[j*step]=false:=by
  rw[eqV_symm 9 n n _ _ (hc _ hj) (hc _ hjx)]
  exact hd j es.length hj hj2
 rw[←hf]
 exact equalHC_c n n B B _ _ _ _ W ((hP _ hu hj).below hW) ((hP _ hju hjx).below hW) (hc _ hj) (hc _ hjx) hn (hT.below hW) (hL.below hW)
set_option maxRecDepth 100000 in
set_option maxHeartbeats 1000000 in
theorem dict_c (n B:Nat) (A:Option Addr) (c:Nat) (us:List Value) (xs:List VT) (w:World) (hl:us.length=xs.length) (hrow:RowC w A us) (hn:n≤8) (hT:Thr w) (hL:Lim w)
 (hP: ∀i (h1:i<us.length) (h2:i<xs.length),PV B n w us[i] xs[i]) (hc: ∀i (h:i*2<xs.length),HC n xs[i*2]) (hd:Dist 2 xs) (he:xs.length%2=0) (hm:xs.length≤16):
 Calls Tryz.prog 57 #[.slice A us.length c] w fun e w'=>e= .returned (.tuple #[.pointer (some ⟨w.heap.size,0,none⟩), .bool true])∧ ∃es,HTab w' w.heap.size 183 (!es.isEmpty) es 0∧xs.length=es.length*2∧Ents xs us es∧Below w.heap.size w w':=by
 have HN:=Lib.hid (fun es hk hj=>key_new (n:=n) (B:=B) (w0:=w) (us:=us) (xs:=xs) (es:=es) (step:=2) (by decide) hl hn hT hL hP hc hd hk hj)
 have HH:=Lib.hid (fun i (h1:i*2<us.length) (h2:i*2<xs.length)=>hashC_tree n B w us[i*2] xs[i*2] (hP _ h1 h2) (hc i h2) hn)
 have HI:=Lib.hid (fun i (h1:i<us.length)=>(hP i h1 (by omega)).iface)
 have HR:=Lib.hid hrow
 have hu16:us.length≤16:=by omega
 have heu:Hid (us.length%2=0):=Lib.hid (by omega)
 have HL:=Lib.hid hl
 have HT0:Hid (HTab (w.alloc (.cells zeroHT 183)) w.heap.size 183 (!(List.nil:List HEnt).isEmpty) [] 0):=Lib.hid (ht_new w _)
 have HB0:Hid (Below w.heap.size w (w.alloc (.cells zeroHT 183))):=Lib.hid ((Below.refl _ w).alloc (Nat.le_refl _) _)
 clear hP hc hd hrow hT hL hn he hm hl
 go_enter Tryz.func57,Tryz.ntmps57
 go_wp2_with fail
 go_loopw [5] (fun i wr=> ∃(j i0:Nat) (es:List HEnt),i0≤us.length∧i= .int .i64 (i0:Int)∧Hid (i0=j*2)∧Hid (es.length=j)∧Hid (Ents xs us es)∧Hid (HTab wr w.heap.size 183 (!es.isEmpty) es 0)∧Hid (Below w.heap.size w wr)) (fun i _=>us.length-(intOf i).toNat)
 case atStart=>exact⟨0,0,[],Nat.zero_le _,rfl,Lib.hid rfl,Lib.hid rfl,Lib.hid (Ents.nil _ _),HT0,HB0⟩
 case round=>
  clear HT0 HB0
  obtain⟨j,i0,es,hi0,rfl,HJ,HE,HQ,HT,HB⟩:=hrel
  by_cases hlt:i0+1<us.length
  ·obtain⟨i1,hi1⟩: ∃i1,i1=i0+1:=⟨_,rfl⟩
   have HI1:=Lib.hid hi1
   have l0:i0<us.length:=by omega
   have l1:i1<us.length:=by omega
   obtain⟨M,o,rfl,hcell⟩:=HR.out (fun e=>by rw[e] at l0;simp at l0)
   obtain⟨T0,x0,e0⟩:=HI.out i0 l0
   obtain⟨T1,x1,e1⟩:=HI.out i1 l1
   have q0:=(HB.out.cell (p:=⟨M,o+i0,none⟩) (lt_of_cell (hcell i0 l0))).trans (hcell i0 l0)
   have q1:=(HB.out.cell (p:=⟨M,o+i1,none⟩) (lt_of_cell (hcell i1 l1))).trans (hcell i1 l1)
   rw[e0] at q0
   rw[e1] at q1
   have he1:(i0:Int)+1=(i1:Int):=by omega
   have he3:IntKind.i64.wrap (i1:Int)=(i1:Int):=IntWalk.i64_in _ (by omega)
   have he5:IntKind.i64.wrap ((i0:Int)+1)=(i1:Int):=by rw[he1];exact he3
   have hjx:j*2<xs.length:=by have:=HJ.out;have:=HL.out;omega
   have hju:j*2<us.length:=by have:=HJ.out;omega
   have hel:es.length=j:=HE.out
   have HS:Hid (Calls Tryz.prog 93 #[.pointer (some ⟨w.heap.size,0,none⟩), .iface T0 x0, .iface T1 x1] wr.drew fun e w'=>e= .returned .nilIface∧HTab w' w.heap.size 183 true (es++[⟨hkey xs[j*2], .iface T0 x0, .iface T1 x1⟩]) 0∧Below w.heap.size wr.drew w'):=by
    have ei:i0=j*2:=HJ.out
    subst ei
    subst hel
    have hh:=HH.out es.length hju hjx
    have hnew:=HN.out es (fun i h h1=>HQ.out.k i h h1) hjx
    rw[e0] at hh
    refine Lib.hid ((setKey_c w.heap.size es T0 T1 x0 x1 (hT xs[es.length*2]) w wr.drew (Nat.le_refl _) HB.out.drew HT.out (by omega) hh (fun q hq=>⟨?_,?_⟩) (fun q hq _ W hW=>?_)))
    ·rw[HQ.out.k q hq (by omega)]
     exact HI.out _ (by omega)
    ·rw[HQ.out.h q hq (by omega)]
     exact hkey_ne _
    ·have:=hnew q hq hju W hW
     rw[e0] at this
     exact this
   have hlt':i1<us.length:=l1
   have HCL:Hid (∀W,Below w.heap.size w W→W.cell? ⟨M,o+i0,none⟩=some (.iface T0 x0)∧W.cell? ⟨M,o+i1,none⟩=some (.iface T1 x1)):=Lib.hid fun W hW=>⟨by rw[hW.cell (p:=⟨M,o+i0,none⟩) (lt_of_cell (hcell i0 l0)),hcell i0 l0,e0],by rw[hW.cell (p:=⟨M,o+i1,none⟩) (lt_of_cell (hcell i1 l1)),hcell i1 l1,e1]⟩
   have HPU:Hid (Ents xs us (es++[⟨hkey xs[j*2], .iface T0 x0, .iface T1 x1⟩])):=by
    have ei:i0=j*2:=HJ.out
    subst ei
    subst hel
    refine Lib.hid (HQ.out.push _ (fun _=>e0.symm) (fun h1=>?_) (fun _=>rfl))
    have ei1:i1=es.length*2+1:=hi1
    subst ei1
    exact e1.symm
   clear hcell e0 e1 hi1
   go_upto_region 5 with fail
   go_region_held3 (fun W=>W.cell? ⟨M,o+i0,none⟩=some (.iface T0 x0)∧W.cell? ⟨M,o+i1,none⟩=some (.iface T1 x1)) (first|(with_reducible exact⟨q0,q1⟩)|exact HCL.out _ HB.out.drew|exact HCL.out _ HB.out) (first|(go_at_call 93;(with_reducible refine HS.out.mono ?_);rintro e w1 ⟨rfl,h1,hb1⟩;have HT1:=Lib.hid h1;(replace HB:Hid (Below w.heap.size w w1):=Lib.hid (HB.out.drew.trans hb1));clear h1 hb1))
   go_wp2
   go_roundw
   case rel=>
    refine⟨j+1,i1+1,es++[⟨hkey xs[j*2], .iface T0 x0, .iface T1 x1⟩],by omega,by go_num,Lib.hid (by have:=HJ.out;have:=HI1.out;omega),Lib.hid (by simp[hel]),HPU,?_,HB⟩
    rw[isEmpty_push]
    exact HT1
   case measure=>simp[intOf];omega
  ·have hend:Hid (i0=us.length):=Lib.hid (by have:=HJ.out;have:=heu.out;omega)
   have HLEN:=Lib.hid (fun W' (hW:W'=wr)=>dictLen_c w.heap.size _ es 0 wr HT.out (by have:=HE.out;have:=HJ.out;omega))
   have hel:es.length=j:=HE.out
   have HE2:Hid (us.length=es.length*2):=Lib.hid (by have:=HJ.out;have:=hend.out;omega)
   obtain⟨L,hL2⟩: ∃L,us.length=L:=⟨_,rfl⟩
   have hfin:Hid ((wrap64 (2*(j:Int))==(us.length:Int))=true):=Lib.hid (by
    have h1:=HJ.out
    have h2:=hend.out
    rw[wrap_in _ (by omega) (by omega)]
    simp
    omega)
   have hlt': ¬((i0:Int)+1<us.length):=by omega
   have he5:IntKind.i64.wrap ((i0:Int)+1)=(i0:Int)+1:=IntWalk.i64_in _ (by omega)
   clear hL2
   go_wp2_with (go_at_call 94;(with_reducible refine(HLEN.out _ rfl).mono ?_);rintro e w1 ⟨rfl,hw1⟩;have HW:=Lib.hid hw1;clear hw1)
   go_ret2
   exact⟨congrArg (fun b=>Ending.returned (.tuple #[.pointer (some ⟨w.heap.size,0,none⟩), .bool b])) hfin.out,es,by rw[HW.out];exact HT.out,by have:=HL.out;have:=HE2.out;omega,HQ.out,by rw[HW.out];exact HB.out⟩
set_option maxRecDepth 100000 in
set_option maxHeartbeats 1000000 in
theorem set_c (n B:Nat) (A:Option Addr) (c:Nat) (us:List Value) (xs:List VT) (w:World) (hl:us.length=xs.length) (hrow:RowC w A us) (hn:n≤8) (hT:Thr w) (hL:Lim w)
 (hP: ∀i (h1:i<us.length) (h2:i<xs.length),PV B n w us[i] xs[i]) (hc: ∀i (h:i<xs.length),HC n xs[i]) (hd:Dist 1 xs) (hm:xs.length≤8):
 Calls Tryz.prog 58 #[.slice A us.length c] w fun e w'=>e= .returned (.tuple #[.pointer (some ⟨w.heap.size,0,none⟩), .bool true])∧ ∃es,HTab w' w.heap.size 185 (!es.isEmpty) es 0∧xs.length=es.length∧EntS xs us es∧Below w.heap.size w w':=by
 have HN:=Lib.hid (fun es hk hj=>key_new (n:=n) (B:=B) (w0:=w) (us:=us) (xs:=xs) (es:=es) (step:=1) (by decide) hl hn hT hL hP (fun i h=>hc (i*1) h) hd hk hj)
 have HH:=Lib.hid (fun i (h1:i<us.length) (h2:i<xs.length)=>hashC_tree n B w us[i] xs[i] (hP _ h1 h2) (hc i h2) hn)
 have HI:=Lib.hid (fun i (h1:i<us.length)=>(hP i h1 (by omega)).iface)
 have HR:=Lib.hid hrow
 have hu8:us.length≤8:=by omega
 have HL:=Lib.hid hl
 have HT0:Hid (HTab (w.alloc (.cells zeroHT 185)) w.heap.size 185 (!(List.nil:List HEnt).isEmpty) [] 0):=Lib.hid (ht_new w _)
 have HB0:Hid (Below w.heap.size w (w.alloc (.cells zeroHT 185))):=Lib.hid ((Below.refl _ w).alloc (Nat.le_refl _) _)
 clear hP hc hd hrow hT hL hn hm hl
 go_enter Tryz.func58,Tryz.ntmps58
 go_wp2_with fail
 go_loopw [10] (fun i wr=> ∃(j:Nat) (es:List HEnt),j≤us.length∧i= .int .i64 (j:Int)∧Hid (es.length=j)∧Hid (EntS xs us es)∧Hid (HTab wr w.heap.size 185 (!es.isEmpty) es 0)∧Hid (Below w.heap.size w wr)) (fun i _=>us.length-(intOf i).toNat)
 case atStart=>exact⟨0,[],Nat.zero_le _,rfl,Lib.hid rfl,Lib.hid fun i h=>absurd h (Nat.not_lt_zero _),HT0,HB0⟩
 case round=>
  clear HT0 HB0
  obtain⟨j,es,hj0,rfl,HE,HQ,HT,HB⟩:=hrel
  by_cases hlt:j<us.length
  ·obtain⟨M,o,rfl,hcell⟩:=HR.out (fun e=>by rw[e] at hlt;simp at hlt)
   obtain⟨T0,x0,e0⟩:=HI.out j hlt
   have q0:=(HB.out.cell (p:=⟨M,o+j,none⟩) (lt_of_cell (hcell j hlt))).trans (hcell j hlt)
   rw[e0] at q0
   have hjx:j<xs.length:=by have:=HL.out;omega
   have hel:es.length=j:=HE.out
   have HS:Hid (Calls Tryz.prog 95 #[.pointer (some ⟨w.heap.size,0,none⟩), .iface T0 x0] wr fun e w'=>e= .returned .nilIface∧HTab w' w.heap.size 185 true (es++[⟨hkey xs[j], .iface T0 x0, .iface 137 (.int .u8 0)⟩]) 0∧Below w.heap.size wr w'):=by
    subst hel
    have hh:=HH.out es.length hlt hjx
    have hnew:=HN.out es (fun i h h1=>by simp only[Nat.mul_one];exact(HQ.out i h (by omega) (by have:=HL.out;omega)).1) (by omega)
    simp only[Nat.mul_one] at hnew
    rw[e0] at hh
    refine Lib.hid ((setInsert_c w.heap.size es T0 x0 (hT xs[es.length]) w wr (Nat.le_refl _) HB.out HT.out (by omega) hh (fun q hq=>⟨?_,?_⟩) (fun q hq _ W hW=>?_)))
    ·rw[(HQ.out q hq (by omega) (by have:=HL.out;omega)).1]
     exact HI.out _ (by omega)
    ·rw[(HQ.out q hq (by omega) (by have:=HL.out;omega)).2.2]
     exact hkey_ne _
    ·have:=hnew q hq hlt W hW
     rw[e0] at this
     exact this
   have HPU:Hid (EntS xs us (es++[⟨hkey xs[j], .iface T0 x0, .iface 137 (.int .u8 0)⟩])):=Lib.hid fun i hi h1 h2=>by
    have hi':i<es.length+1:=by simpa using hi
    by_cases hlt:i<es.length
    ·rw[List.getElem_append_left hlt];exact HQ.out i hlt h1 h2
    ·have e2:i=es.length:=by omega
     subst e2
     rw[List.getElem_append_right (Nat.le_refl _)]
     subst hel
     exact⟨by simpa using e0.symm,by simp,by simp⟩
   clear hcell e0
   go_wp2_with (go_at_call 95;(with_reducible refine HS.out.mono ?_);rintro e w1 ⟨rfl,h1,hb1⟩;have HT1:=Lib.hid h1;(replace HB:Hid (Below w.heap.size w w1):=Lib.hid (HB.out.trans hb1));clear h1 hb1)
   go_roundw
   case rel=>
    refine⟨j+1,es++[⟨hkey xs[j], .iface T0 x0, .iface 137 (.int .u8 0)⟩],by omega,by go_num,Lib.hid (by simp[hel]),HPU,?_,HB⟩
    rw[isEmpty_push]
    exact HT1
   case measure=>simp[intOf];omega
  ·have HLEN:=Lib.hid (fun W' (hW:W'=wr)=>setLen_c w.heap.size _ es 0 wr HT.out (by have:=HE.out;omega))
   have HE2:Hid (us.length=es.length):=Lib.hid (by have:=HE.out;omega)
   have hq:((es.length:Int)==(us.length:Int))=true:=by have:=HE2.out;simp;omega
   go_wp2_with (go_at_call 96;(with_reducible refine(HLEN.out _ rfl).mono ?_);rintro e w1 ⟨rfl,hw1⟩;have HW:=Lib.hid hw1;clear hw1)
   go_ret2
   exact⟨rfl,es,by rw[HW.out];exact HT.out,by have:=HL.out;have:=HE2.out;omega,HQ.out,by rw[HW.out];exact HB.out⟩
def ValueR (n:Nat) (x:VT) (w:World) (e:Ending) (w':World):Prop:= ∃u,e= .returned (.tuple #[u, .bool true])∧PV w.heap.size n w' u x∧Below w.heap.size w w'
set_option maxRecDepth 100000 in
theorem valueSca_c (n:Nat) (x:VT) (v:Value) (w:World) (h:VR w v x) (hs:SC x):Calls Tryz.prog 27 #[v] w (ValueR n x w):=by
 obtain⟨s,hc,hf⟩:=hs
 have hk:=hc.kind
 have hk6:0≤x.f0∧x.f0<6:=by rw[hk];cases s<;>simp[Sca.kind]
 have HSc:Hid (∀W,Below w.heap.size w W→Calls Tryz.prog 54 #[.int .i64 x.f0,v] W fun e w'=> ∃u,e= .returned (.tuple #[u, .bool true])∧ScaV W.heap.size w' u s∧Below W.heap.size W w'):=Lib.hid fun W hW=>by
  have:=scalar_c x v W (h.below hW) hc.leaf
  rw[hc.sca] at this
  exact this.mono fun e w' ⟨⟨u,he,hv⟩,hb⟩=>⟨u,he,hv,hb⟩
 have HF:=Lib.hid (And.intro hc hf)
 obtain⟨A2,c2,A5,c5,rfl,_⟩:=h.open
 have HB0:Hid (∀o,Below w.heap.size w (w.alloc o)):=fun o=>(Below.refl _ w).alloc (Nat.le_refl _) o
 have d1:decide (x.f0<6)=true:=by simp;omega
 clear h hc hf hk hk6
 go_enter Tryz.func27,Tryz.ntmps27
 go_wp2_with (go_at_call 54;(with_reducible refine(HSc.out _ (by first|exact HB0.out _|exact(HB0.out _).drew)).mono ?_);rintro e w1 ⟨u,rfl,hv,hb1⟩;obtain⟨T,y,rfl⟩:=sca_one hv;have HE:=Lib.hid (And.intro hv hb1);clear hv hb1)
 go_ret2
 refine⟨_,rfl,PV.of_s ⟨s,HF.out.1,HF.out.2,HE.out.1.lower (by simp)⟩ n,?_⟩
 first|exact(HB0.out _).trans (HE.out.2.mono (by simp))|exact(HB0.out _).drew.trans (HE.out.2.mono (by simp))
theorem VRow.rc {w0 w:World} {n M N:Nat} {xs:List VT} {us:List Value} (h:VRow w0 n M N xs us w):RowC w (some ⟨M,0,none⟩) us:=fun _=>⟨M,0,rfl,fun i hi=>by rw[Nat.zero_add];exact h.cl i hi⟩
theorem VRow.pv {w0 w:World} {n M N:Nat} {xs:List VT} {us:List Value} (h:VRow w0 n M N xs us w): ∀i (h1:i<us.length) (h2:i<xs.length),PV w0.heap.size n w us[i] xs[i]:=fun i h1 h2=>PV.lower (Nat.le_trans h.hM (Nat.le_succ M)) (h.sv i h1 h2)
set_option maxRecDepth 100000 in
set_option maxHeartbeats 1000000 in
theorem valueBox_c (n:Nat) (hn:n≤8) (x:VT) (v:Value) (w:World) (h:VR w v x) (hb:Box x) (hl:x.f5.length≤16) (hct: ∀k∈x.f5,CT n k) (hk:x.f0=6∨x.f0=7∨(x.f0=8∧DictOk n x.f5)∨(x.f0=9∧SetOk n x.f5)) (hT:Thr w) (hL:Lim w)
 (ih: ∀(y:VT) (u:Value) (W:World),VR W u y→CT n y→Thr W→Lim W→Calls Tryz.prog 27 #[u] W (ValueR n y W)):
 Calls Tryz.prog 27 #[v] w (ValueR (n+1) x w):=by
 obtain⟨a0,a1,a2,a3,a4,xs⟩:=x
 obtain⟨e1,e2,e3,e4⟩:=hb
 dsimp only at*
 subst e1 e2 e3 e4
 obtain⟨A2,c2,A5,c5,rfl,l2,g2,l5,g5⟩:=h.open
 have HVs:Hid (∀W,Below w.heap.size w W→Calls Tryz.prog 55 #[.slice A5 xs.length c5] W fun e w'=> ∃us,us.length=xs.length∧e= .returned (.tuple #[.slice (some ⟨W.heap.size,0,none⟩) xs.length xs.length, .bool true])∧VRow W n W.heap.size xs.length xs us w'):=Lib.hid fun W hW=>
  values_c n A5 c5 xs W (Kd.C_below g5 hW) (by omega) fun i hi u W' hW' hu=>ih _ u W' hu (hct _ (List.getElem_mem hi)) (hT.below (hW.trans (hW'.mono hW.size))) (hL.below (hW.trans (hW'.mono hW.size)))
 have HTL:Hid (∀W,Below w.heap.size w W→Thr W∧Lim W):=Lib.hid fun W hW=>⟨hT.below hW,hL.below hW⟩
 have HB0:Hid (∀o,Below w.heap.size w (w.alloc o)):=fun o=>(Below.refl _ w).alloc (Nat.le_refl _) o
 have hz: ∀o,(w.alloc o).heap.size=w.heap.size+1:=fun o=>by simp
 have HZ:=Lib.hid hz
 have HC:=Lib.hid (And.intro hct hl)
 clear h l2 g2 l5 g5 hT hL ih hct hl hz
 rcases hk with rfl|rfl|⟨rfl,hd⟩|⟨rfl,hd⟩
 ·have HK0:Hid ((w.alloc (.cells #[.int .i64 6, .bool false, .slice A2 0 c2, .int .u64 0, .string ⟨#[]⟩, .slice A5 xs.length c5] 26)).heap[w.heap.size]?=some (.cells #[.int .i64 6, .bool false, .slice A2 0 c2, .int .u64 0, .string ⟨#[]⟩, .slice A5 xs.length c5] 26 (0,0))):=Lib.hid (blk_new _ _)
  go_enter Tryz.func27,Tryz.ntmps27
  go_wp2_with (first
   |(go_at_call 55;(with_reducible refine(HVs.out _ (by first|exact HB0.out _|exact(HB0.out _).drew)).mono ?_);rintro e w1 ⟨us,hus,rfl,hr⟩;have z0:=blk_cell (blk_below HK0.out (by first|exact hr.low|exact(Below.refl _ _).drew.trans hr.low)) 0 _ rfl;have HR:=Lib.hid (And.intro hus hr);clear hus hr)
   |(go_at_call 56;(with_reducible refine(newList_c _ _ _ _).mono ?_);rintro e w2 ⟨rfl,hk2,hb2⟩;have HN:=Lib.hid (And.intro hk2 hb2);clear hk2 hb2))
  go_ret2
  have hlow:Below w.heap.size w w1:=by first|exact(HB0.out _).trans (HR.out.2.low.mono (HB0.out _).size)|exact(HB0.out _).drew.trans (HR.out.2.low.mono (HB0.out _).size)
  refine⟨_,rfl,Or.inr ⟨⟨rfl,rfl,rfl,rfl⟩,Or.inl ⟨rfl,w1.heap.size,_,rfl,hlow.size,HN.out.1,?_⟩⟩,hlow.trans (HN.out.2.mono hlow.size)⟩
  have hx:=((HR.out.2.below HN.out.2).rowV HR.out.1).lower (HB0.out _).size fun _ _ h=>PV.lower (HB0.out _).size h
  rw[HZ.out] at hx
  exact hx
 ·have HK0:Hid ((w.alloc (.cells #[.int .i64 7, .bool false, .slice A2 0 c2, .int .u64 0, .string ⟨#[]⟩, .slice A5 xs.length c5] 26)).heap[w.heap.size]?=some (.cells #[.int .i64 7, .bool false, .slice A2 0 c2, .int .u64 0, .string ⟨#[]⟩, .slice A5 xs.length c5] 26 (0,0))):=Lib.hid (blk_new _ _)
  go_enter Tryz.func27,Tryz.ntmps27
  go_wp2_with (go_at_call 55;(with_reducible refine(HVs.out _ (by first|exact HB0.out _|exact(HB0.out _).drew)).mono ?_);rintro e w1 ⟨us,hus,rfl,hr⟩;have z0:=blk_cell (blk_below HK0.out (by first|exact hr.low|exact(Below.refl _ _).drew.trans hr.low)) 0 _ rfl;have HR:=Lib.hid (And.intro hus hr);clear hus hr)
  go_ret2
  have hlow:Below w.heap.size w w1:=by first|exact(HB0.out _).trans (HR.out.2.low.mono (HB0.out _).size)|exact(HB0.out _).drew.trans (HR.out.2.low.mono (HB0.out _).size)
  refine⟨_,rfl,Or.inr ⟨⟨rfl,rfl,rfl,rfl⟩,Or.inr (Or.inl ⟨rfl,_,rfl,?_⟩)⟩,hlow⟩
  have hx:=(HR.out.2.rowV HR.out.1).lower (HB0.out _).size fun _ _ h=>PV.lower (HB0.out _).size h
  rw[HZ.out] at hx
  exact hx
 ·have HD:=Lib.hid hd
  clear hd
  have HK0:Hid ((w.alloc (.cells #[.int .i64 8, .bool false, .slice A2 0 c2, .int .u64 0, .string ⟨#[]⟩, .slice A5 xs.length c5] 26)).heap[w.heap.size]?=some (.cells #[.int .i64 8, .bool false, .slice A2 0 c2, .int .u64 0, .string ⟨#[]⟩, .slice A5 xs.length c5] 26 (0,0))):=Lib.hid (blk_new _ _)
  go_enter Tryz.func27,Tryz.ntmps27
  go_wp2_with (first
   |(go_at_call 55;(with_reducible refine(HVs.out _ (by first|exact HB0.out _|exact(HB0.out _).drew)).mono ?_);rintro e w1 ⟨us,hus,rfl,hr⟩;have z0:=blk_cell (blk_below HK0.out (by first|exact hr.low|exact(Below.refl _ _).drew.trans hr.low)) 0 _ rfl;have HR:=Lib.hid (And.intro hus hr);have hlow:Below w.heap.size w w1:=(by first|exact(HB0.out _).trans (hr.low.mono (HB0.out _).size)|exact(HB0.out _).drew.trans (hr.low.mono (HB0.out _).size));have HLW:=Lib.hid hlow;have hdc:=dict_c n _ (some ⟨_,0,none⟩) xs.length us xs w1 hus hr.rc hn (HTL.out _ hlow).1 (HTL.out _ hlow).2 hr.pv (fun i hi=>hc_of (HC.out.1 _ (List.getElem_mem hi)) (HD.out.2.2.1 i hi)) HD.out.2.2.2 HD.out.1 HD.out.2.1;rw[hus,HZ.out] at hdc;have HDC:=Lib.hid hdc;clear hus hr hlow hdc)
   |(go_at_call 57;(with_reducible refine HDC.out.mono ?_);rintro e w2 ⟨rfl,es,h1,h2,h3,h4⟩;have HE:=Lib.hid (And.intro h1 (And.intro h2 (And.intro h3 h4)));clear h1 h2 h3 h4))
  go_ret2
  have hlow:=HLW.out
  refine⟨_,rfl,Or.inr ⟨⟨rfl,rfl,rfl,rfl⟩,Or.inr (Or.inr (Or.inl ⟨rfl,w1.heap.size,es,rfl,hlow.size,HE.out.1,HE.out.2.1,fun i hi h1 h2=>?_⟩))⟩,hlow.trans (HE.out.2.2.2.mono hlow.size)⟩
  have hrow:=HR.out.2.below HE.out.2.2.2
  have hus:=HR.out.1
  refine⟨?_,?_,HE.out.2.2.1.h i hi h1⟩
  ·rw[HE.out.2.2.1.k i hi (by rw[hus];exact h1)]
   exact PV.lower (HB0.out _).size (hrow.pv _ (by rw[hus];exact h1) h1)
  ·rw[HE.out.2.2.1.v i hi (by rw[hus];exact h2)]
   exact PV.lower (HB0.out _).size (hrow.pv _ (by rw[hus];exact h2) h2)
 ·have HD:=Lib.hid hd
  clear hd
  have HK0:Hid ((w.alloc (.cells #[.int .i64 9, .bool false, .slice A2 0 c2, .int .u64 0, .string ⟨#[]⟩, .slice A5 xs.length c5] 26)).heap[w.heap.size]?=some (.cells #[.int .i64 9, .bool false, .slice A2 0 c2, .int .u64 0, .string ⟨#[]⟩, .slice A5 xs.length c5] 26 (0,0))):=Lib.hid (blk_new _ _)
  go_enter Tryz.func27,Tryz.ntmps27
  go_wp2_with (first
   |(go_at_call 55;(with_reducible refine(HVs.out _ (by first|exact HB0.out _|exact(HB0.out _).drew)).mono ?_);rintro e w1 ⟨us,hus,rfl,hr⟩;have z0:=blk_cell (blk_below HK0.out (by first|exact hr.low|exact(Below.refl _ _).drew.trans hr.low)) 0 _ rfl;have HR:=Lib.hid (And.intro hus hr);have hlow:Below w.heap.size w w1:=(by first|exact(HB0.out _).trans (hr.low.mono (HB0.out _).size)|exact(HB0.out _).drew.trans (hr.low.mono (HB0.out _).size));have HLW:=Lib.hid hlow;have hdc:=set_c n _ (some ⟨_,0,none⟩) xs.length us xs w1 hus hr.rc hn (HTL.out _ hlow).1 (HTL.out _ hlow).2 hr.pv (fun i hi=>hc_of (HC.out.1 _ (List.getElem_mem hi)) (HD.out.2.1 _ (List.getElem_mem hi))) HD.out.2.2 HD.out.1;rw[hus,HZ.out] at hdc;have HDC:=Lib.hid hdc;clear hus hr hlow hdc)
   |(go_at_call 58;(with_reducible refine HDC.out.mono ?_);rintro e w2 ⟨rfl,es,h1,h2,h3,h4⟩;have HE:=Lib.hid (And.intro h1 (And.intro h2 (And.intro h3 h4)));clear h1 h2 h3 h4))
  go_ret2
  have hlow:=HLW.out
  refine⟨_,rfl,Or.inr ⟨⟨rfl,rfl,rfl,rfl⟩,Or.inr (Or.inr (Or.inr ⟨rfl,w1.heap.size,es,rfl,hlow.size,HE.out.1,HE.out.2.1,fun i hi h1=>?_⟩))⟩,hlow.trans (HE.out.2.2.2.mono hlow.size)⟩
  have hrow:=HR.out.2.below HE.out.2.2.2
  have hus:=HR.out.1
  obtain⟨k1,k2,k3⟩:=HE.out.2.2.1 i hi (by rw[hus];exact h1) h1
  refine⟨?_,k2,k3⟩
  rw[k1]
  exact PV.lower (HB0.out _).size (hrow.pv _ (by rw[hus];exact h1) h1)
theorem value_c: ∀(n:Nat),n≤8→ ∀(x:VT) (v:Value) (w:World),VR w v x→CT n x→Thr w→Lim w→Calls Tryz.prog 27 #[v] w (ValueR n x w)
 |0,_,x,v,w,h,hc,_,_=>valueSca_c 0 x v w h hc
 |n+1,hn,x,v,w,h,hc,hT,hL=>by
  rcases hc with hs|⟨hb,hl,hct,hk⟩
  ·exact valueSca_c (n+1) x v w h hs
  ·exact valueBox_c n (by omega) x v w h hb hl hct hk hT hL fun y u W hu hy hT' hL'=>value_c n (by omega) y u W hu hy hT' hL'
def FitR (e:Ending):Prop:= ∃r:Bool,e= .returned (.bool r)
set_option maxRecDepth 100000 in
theorem fitsV_c (k b:Int) (n:Bool) (t:ByteArray) (A2 A5:Option Addr) (m c2 n5 c5:Nat) (w:World):Calls Tryz.prog 8 #[.agg #[.int .i64 k, .bool n, .slice A2 m c2, .int .u64 b, .string t, .slice A5 n5 c5]] w fun e w'=>FitR e∧Below w.heap.size w w':=by
 have HB:Hid (Below w.heap.size w (w.alloc (.cells #[.int .i64 k, .bool n, .slice A2 m c2, .int .u64 b, .string t, .slice A5 n5 c5] 26))):=Lib.hid ((Below.refl _ w).alloc (Nat.le_refl _) _)
 by_cases h1:(2147483647:Int)<m
 ·go_enter Tryz.func8,Tryz.ntmps8
  go_wp2
  go_ret
  exact⟨⟨_,rfl⟩,HB.out⟩
 ·by_cases h2:(2147483647:Int)<t.size
  ·go_enter Tryz.func8,Tryz.ntmps8
   go_wp2
   go_ret
   exact⟨⟨_,rfl⟩,HB.out⟩
  ·by_cases h3:(2147483647:Int)<n5
   ·go_enter Tryz.func8,Tryz.ntmps8
    go_wp2
    go_ret
    exact⟨⟨_,rfl⟩,HB.out⟩
   ·go_enter Tryz.func8,Tryz.ntmps8
    go_wp2
    go_ret
    exact⟨⟨_,rfl⟩,HB.out⟩
def LookR (es:List HEnt) (hh:Int) (q:Nat→Bool) (e:Ending):Prop:=
 (∃j,∃hj:j<es.length,es[j].h=hh∧q j=true∧e= .returned (.tuple #[es[j].v, .bool true, .nilIface]))∨
 ((∀j (hj:j<es.length),es[j].h=hh→q j=false)∧e= .returned (.tuple #[.iface 137 (.int .u8 0), .bool false, .nilIface]))
set_option maxRecDepth 100000 in
set_option maxHeartbeats 1000000 in
theorem lookup_c (g:Nat) (T:TypeId) (es:List HEnt) (it:Int) (TK:TypeId) (kx:Value) (h:Int) (qf:Nat→Bool) (w:World) (ht:HTab w g T (!es.isEmpty) es it) (hk:es.length≤8)
 (hH:HashC w (.iface TK kx) h) (hI: ∀j (hj:j<es.length),(∃T x,es[j].k= .iface T x)∧ ¬es[j].h=0)
 (hE: ∀j (hj:j<es.length),es[j].h=(if h=0 then 1 else h)→ ∀W,Below w.heap.size w W→Calls Tryz.prog 121 #[.iface TK kx,es[j].k] W fun e W'=>e= .returned (.tuple #[.bool (qf j), .nilIface])∧Below W.heap.size W W'):
 Calls Tryz.prog 303 #[.pointer (some ⟨g,0,none⟩), .iface TK kx] w fun e w'=>LookR es (if h=0 then 1 else h) qf e∧Below w.heap.size w w':=by
 obtain⟨T',x',K,e,⟨hm,he⟩,hc⟩:=hH
 cases e
 have HC:=Lib.hid hc
 have HE:=Lib.hid (And.intro hE hI)
 obtain⟨hh,hhh⟩: ∃hh,(if h=0 then 1 else h)=hh:=⟨_,rfl⟩
 have hh0: ¬hh=0:=by rw[←hhh];split<;>omega
 rw[hhh] at HE⊢
 have HHH:=Lib.hid hhh
 have hts:=tabSome
 have htn:=tabNone
 have hand:=and0 hh
 have HB0:Hid (Below w.heap.size w w):=Lib.hid (Below.refl _ w)
 have HT:=Lib.hid ht
 by_cases hne:es=[]
 ·have ht':HTab w g T false es it:=by rw[hne] at ht⊢;exact ht
  have HN:Hid (LookR es hh qf (.returned (.tuple #[.iface 137 (.int .u8 0), .bool false, .nilIface]))):=Lib.hid (Or.inr ⟨fun j hj=>by rw[hne] at hj;exact absurd hj (Nat.not_lt_zero _),rfl⟩)
  have HTN:=Lib.hid ht'
  clear hE hI hhh ht ht' hne HT HE
  by_cases hz:h=0
  all_goals
   clear hc
   first|subst hz|skip
   go_enter Tryz.func303,Tryz.ntmps303
   go_wp2_with (go_at_fn K;(with_reducible refine(HC.out _ HB0.out).mono ?_);rintro e w1 ⟨rfl,hb1⟩;have HB1:=Lib.hid hb1;have c0:w1.cell? ⟨g,0,none⟩=some (.slice none 0 0):=(HTN.out.below hb1).c0;clear hb1)
   exact bodyPost_ret (v:= .tuple #[.iface 137 (.int .u8 0), .bool false, .nilIface]) (by simp[results,Tryz.results303,go_sem]) rfl ⟨HN.out,HB1.out⟩
 ·have hb:(!es.isEmpty)=true:=by cases es;exact absurd rfl hne;rfl
  have hz: ¬es.length=0:=fun e=>hne (List.length_eq_zero_iff.1 e)
  have HZ:=Lib.hid hz
  rw[hb] at HT
  clear hc hE hI hhh ht hne hz hb
  go_enter Tryz.func303,Tryz.ntmps303
  go_wp2_with fail
  go_upto_if 22 with(go_at_fn K;(with_reducible refine(HC.out _ HB0.out).mono ?_);rintro e w1 ⟨rfl,hb1⟩;have HT1:=Lib.hid (HT.out.below hb1);have HB1:=Lib.hid hb1;clear hb1)
  go_cut [7] (fun a wx=>a= .int .u32 hh∧wx=w1)
  case first=>
   by_cases hz:h=0
   ·subst hz
    have e1:Hid (hh=1):=Lib.hid (by have:=HHH.out;simpa using this.symm)
    obtain rfl:=e1.out
    go_wp2
    go_meet
    exact⟨rfl,rfl⟩
   ·have e1:Hid (hh=h):=Lib.hid (by have:=HHH.out;rw[if_neg hz] at this;exact this.symm)
    obtain rfl:=e1.out
    have hzb:(hh==0)=false:=by simp[hz]
    go_wp2
    go_meet
    exact⟨rfl,rfl⟩
  case rest=>
   obtain⟨rfl,rfl⟩:=hcut
   clear HC hm he HHH HB0
   have d0:wc.cell? ⟨g,0,none⟩=some (.slice (some ⟨g,1,none⟩) 1 1):=HT1.out.c0
   go_wp2_with fail
   have hw0:IntKind.i64.wrap 0=0:=by decide
   have hw1:IntKind.u32.wrap 0=0:=by decide
   go_region_held3 (fun W=>W.cell? ⟨g,0,none⟩=some (.slice (some ⟨g,1,none⟩) 1 1)) (first|(with_reducible exact d0)|exact d0) (fail)
   go_wp2_with fail
   refine wp_loop_rounds 2 ?_
   rw[rounds_succ]
   go_wp2_with fail
   go_loopw [49] (fun i wr=> ∃q:Nat,q≤8∧i= .int .i64 q∧Hid (∀j (hj:j<es.length),8≤j+q→es[j].h=hh→qf j=false)∧Hid (Below w.heap.size w wr)) (fun i _=>8-(intOf i).toNat)
   case atStart=>exact⟨0,by omega,rfl,Lib.hid (fun j hj h8=>absurd h8 (by omega)),Lib.hid (by first|exact HB1.out|exact HB1.out.drew)⟩
   case round=>
    obtain⟨q,hq,rfl,HQ,HBR⟩:=hrel
    have HTR:Hid (HTab wr g T true es it):=Lib.hid (HT.out.below HBR.out)
    by_cases hlt:q<8
    ·have x0:=HTR.out.slot q 0 hlt (by decide)
     by_cases hf:q+es.length<8
     ·rw[slot_empty g es (7-q) (by omega)] at x0
      simp only[Nat.add_zero] at x0
      have hq3:((0:Int)==hh)=false:=by simp;exact fun e=>hh0 e.symm
      have HF:=Lib.hid hf
      clear hf
      go_wp2
      go_roundw
      case rel=>exact⟨q+1,by omega,by go_num,Lib.hid (fun j hj h8=>HQ.out j hj (by have:=HF.out;omega)),HBR⟩
      case measure=>simp[intOf];omega
     ·have hj:7-q<es.length:=by omega
      have x1:=HTR.out.slot q 1 hlt (by decide)
      have x2:=HTR.out.slot q 2 hlt (by decide)
      rw[(slot_full g es (7-q) hj).1] at x0
      rw[(slot_full g es (7-q) hj).2.1] at x1
      rw[(slot_full g es (7-q) hj).2.2.1] at x2
      obtain⟨⟨Tj,xj,hxj⟩,hnz⟩:=HE.out.2 (7-q) hj
      have HEj:=Lib.hid (fun hhe=>HE.out.1 (7-q) hj hhe wr HBR.out)
      obtain⟨b,hb⟩: ∃b,qf (7-q)=b:=⟨_,rfl⟩
      have HBQ:=Lib.hid hb
      rw[hxj,hb] at HEj
      rw[hxj] at x1
      obtain⟨vj,hvj⟩: ∃v,es[7-q].v=v:=⟨_,rfl⟩
      have HVJ:=Lib.hid hvj
      rw[hvj] at x2
      have HEH:Hid (∃eh,es[7-q].h=eh):=Lib.hid ⟨_,rfl⟩
      obtain⟨eh,heh⟩:=HEH.out
      have HHJ:=Lib.hid heh
      have HJ:=Lib.hid hj
      rw[heh] at x0 HEj
      simp only[Nat.add_zero] at x0
      have HX:Hid (∀W,Below wr.heap.size wr W→W.cell? ⟨g,1+q*5+2,none⟩=some vj):=Lib.hid fun W hW=>(hW.cell (p:=⟨g,_,none⟩) (lt_of_cell x2)).trans x2
      clear hf hxj hb hvj heh hnz
      by_cases hhe:eh=hh
      ·have HEq:=Lib.hid (HEj.out hhe)
       subst hhe
       clear HEj
       have hq1:(eh==eh)=true:=by simp
       cases b
       ·go_wp2_with (go_at_call 121;(with_reducible refine HEq.out.mono ?_);rintro e w2 ⟨rfl,hb2⟩;replace HBR:=Lib.hid (HBR.out.trans (hb2.mono HBR.out.size));clear hb2)
        go_roundw
        case rel=>exact⟨q+1,by omega,by go_num,Lib.hid (fun j hj h8 he=>by
         by_cases h9:8≤j+q
         ·exact HQ.out j hj h9 he
         ·have e2:j=7-q:=by omega
          subst e2
          exact HBQ.out),HBR⟩
        case measure=>simp[intOf];omega
       ·clear x2
        go_wp2_with (go_at_call 121;(with_reducible refine HEq.out.mono ?_);rintro e w2 ⟨rfl,hb2⟩;have y2:=HX.out _ hb2;replace HBR:=Lib.hid (HBR.out.trans (hb2.mono HBR.out.size));clear hb2)
        (try rw[Exit.noGoto_ret])
        exact bodyPost_ret (v:= .tuple #[vj, .bool true, .nilIface]) (by simp[results,Tryz.results303,go_sem]) rfl ⟨Or.inl ⟨7-q,HJ.out,HHJ.out,HBQ.out,by rw[HVJ.out]⟩,HBR.out⟩
      ·have hq1:(eh==hh)=false:=by simp[hhe]
       have HNE:=Lib.hid hhe
       clear hhe HEj
       go_wp2
       go_roundw
       case rel=>exact⟨q+1,by omega,by go_num,Lib.hid (fun j hj h8 he=>by
        by_cases h9:8≤j+q
        ·exact HQ.out j hj h9 he
        ·have e2:j=7-q:=by omega
         subst e2
         exact absurd (HHJ.out.symm.trans he) HNE.out),HBR⟩
       case measure=>simp[intOf];omega
    ·obtain rfl:q=8:=by omega
     have d41:=HTR.out.c41
     have HNO:Hid (LookR es hh qf (.returned (.tuple #[.iface 137 (.int .u8 0), .bool false, .nilIface]))):=Lib.hid (Or.inr ⟨fun j hj=>HQ.out j hj (by omega),rfl⟩)
     go_wp2_with fail
     rw[rounds_succ]
     go_wp2_with fail
     exact bodyPost_ret (v:= .tuple #[.iface 137 (.int .u8 0), .bool false, .nilIface]) (by simp[results,Tryz.results303,go_sem]) rfl ⟨HNO.out,HBR.out⟩
set_option maxRecDepth 100000 in
theorem dictGet_c (P:Ending→Prop) (g:Nat) (k:Value) (w:World) (h: ∀W,Below w.heap.size w W→Calls Tryz.prog 303 #[.pointer (some ⟨g,0,none⟩),k] W fun e W'=>(∃v b,e= .returned (.tuple #[v, .bool b, .nilIface])∧P e)∧Below W.heap.size W W'):
 Calls Tryz.prog 302 #[.pointer (some ⟨g,0,none⟩),k] w fun e w'=>P e∧Below w.heap.size w w':=by
 have H:=Lib.hid h
 have HB:Hid (Below w.heap.size w w):=Lib.hid (Below.refl _ w)
 clear h
 go_enter Tryz.func302,Tryz.ntmps302
 go_wp2_with (go_at_call 303;(with_reducible refine(H.out _ HB.out).mono ?_);rintro e w1 ⟨⟨v,b,rfl,hp⟩,hb1⟩;have HP:=Lib.hid hp;have HB1:=Lib.hid hb1;clear hp hb1)
 exact bodyPost_ret (v:= .tuple #[v, .bool b, .nilIface]) (by simp[results,Tryz.results302,go_sem]) rfl ⟨HP.out,HB1.out⟩
set_option maxRecDepth 100000 in
theorem setHas_c (g:Nat) (k:Value) (b:Bool) (w:World) (h: ∀W,Below w.heap.size w W→Calls Tryz.prog 303 #[.pointer (some ⟨g,0,none⟩),k] W fun e W'=>(∃v,e= .returned (.tuple #[v, .bool b, .nilIface]))∧Below W.heap.size W W'):
 Calls Tryz.prog 313 #[.pointer (some ⟨g,0,none⟩),k] w fun e w'=>e= .returned (.tuple #[.bool b, .nilIface])∧Below w.heap.size w w':=by
 have H:=Lib.hid h
 have HB:Hid (Below w.heap.size w w):=Lib.hid (Below.refl _ w)
 clear h
 go_enter Tryz.func313,Tryz.ntmps313
 go_wp2_with (go_at_call 303;(with_reducible refine(H.out _ HB.out).mono ?_);rintro e w1 ⟨⟨v,rfl⟩,hb1⟩;have HB1:=Lib.hid hb1;clear hb1)
 go_ret2
 exact⟨rfl,HB1.out⟩
def entP (g n j:Nat):Value:=if j<n then .pointer (some ⟨g,36-5*j,none⟩) else .pointer none
theorem entP_some {g n j:Nat} (h:j<n):entP g n j= .pointer (some ⟨g,36-5*j,none⟩):=if_pos h
theorem entP_none (g n:Nat):entP g n n= .pointer none:=if_neg (Nat.lt_irrefl _)
theorem entP_next {g n j:Nat} (h:j<n) (hn:n≤8):nextP g n j=entP g n (j+1):=by
 unfold nextP entP
 by_cases h1:j+1<n
 ·rw[if_pos h1,if_pos h1,show 1+5*(6-j)=36-5*(j+1) by omega]
 ·rw[if_neg h1,if_neg h1]
theorem HTab.ent {w:World} {g:Nat} {T:TypeId} {tab:Bool} {es:List HEnt} {it:Int} (h:HTab w g T tab es it) (hn:es.length≤8) (j:Nat) (hj:j<es.length):
 w.cell? ⟨g,36-5*j+1,none⟩=some es[j].k∧w.cell? ⟨g,36-5*j+2,none⟩=some es[j].v∧w.cell? ⟨g,36-5*j+3,none⟩=some (entP g es.length (j+1)):=by
 have k1:=h.slot (7-j) 1 (by omega) (by decide)
 have k2:=h.slot (7-j) 2 (by omega) (by decide)
 have k3:=h.slot (7-j) 3 (by omega) (by decide)
 have e:7-(7-j)=j:=by omega
 have o1:1+(7-j)*5=36-5*j:=by omega
 rw[e,o1] at k1 k2 k3
 obtain⟨_,f1,f2,f3⟩:=slot_full g es j hj
 rw[f1] at k1
 rw[f2] at k2
 rw[f3,entP_next hj hn] at k3
 exact⟨k1,k2,k3⟩
theorem HTab.head {w:World} {g:Nat} {T:TypeId} {tab:Bool} {es:List HEnt} {it:Int} (h:HTab w g T tab es it):w.cell? ⟨g,44,none⟩=some (entP g es.length 0):=by
 rw[h.c44]
 unfold entP
 by_cases h0:es.length=0
 ·rw[if_pos h0,if_neg (by omega)]
 ·rw[if_neg h0,if_pos (by omega)]
def GetR (o:Option Value) (e:Ending):Prop:=match o with
 |none=>e= .returned (.tuple #[.iface 137 (.int .u8 0), .bool false, .nilIface])
 |some v=>e= .returned (.tuple #[v, .bool true, .nilIface])
def allAt (n:Nat) (F:Nat→Bool):Bool:=(List.range n).all F
theorem allAt_true {n:Nat} {F:Nat→Bool} (h: ∀j,j<n→F j=true):allAt n F=true:=by
 unfold allAt;rw[List.all_eq_true];intro j hj;exact h j (by simpa using hj)
theorem allAt_false {n:Nat} {F:Nat→Bool} {j:Nat} (hj:j<n) (h:F j=false):allAt n F=false:=by
 unfold allAt;rw[List.all_eq_false];exact⟨j,by simpa using hj,by simp[h]⟩
def offOf:Value→Nat
 | .pointer (some a)=>a.off+1
 |_=>0
theorem off_next {g n j:Nat} (hj:j<n) (hn:n≤8):offOf (entP g n (j+1))<offOf (.pointer (some ⟨g,36-5*j,none⟩)):=by
 unfold entP
 by_cases h:j+1<n
 ·rw[if_pos h];show 36-5*(j+1)+1<36-5*j+1;omega
 ·rw[if_neg h];show 0<36-5*j+1;omega
set_option maxRecDepth 100000 in
set_option maxHeartbeats 1000000 in
theorem setsEqual_c (g1 g2:Nat) (t1 t2:Bool) (es1 es2:List HEnt) (i1 i2:Int) (F:Nat→Bool) (w:World) (h1:HTab w g1 185 t1 es1 i1) (h2:HTab w g2 185 t2 es2 i2) (hn1:es1.length≤8) (hn2:es2.length≤8)
 (hI: ∀j (hj:j<es1.length),∃T x,es1[j].k= .iface T x)
 (hF: ∀j (hj:j<es1.length) W,Below w.heap.size w W→Calls Tryz.prog 313 #[.pointer (some ⟨g2,0,none⟩),es1[j].k] W fun e W'=>e= .returned (.tuple #[.bool (F j), .nilIface])∧Below W.heap.size W W'):
 Calls Tryz.prog 310 #[.pointer (some ⟨g1,0,none⟩), .pointer (some ⟨g2,0,none⟩)] w fun e w'=>e= .returned (.tuple #[.bool (decide (es1.length=es2.length)&&allAt es1.length F), .nilIface])∧Below w.heap.size w w':=by
 have HL1:=Lib.hid (fun W (hW:W=w)=>setLen_c g1 t1 es1 i1 w h1 (by omega))
 have HL2:=Lib.hid (fun W (hW:W=w)=>setLen_c g2 t2 es2 i2 w h2 (by omega))
 have H1:=Lib.hid h1
 have HF:=Lib.hid hF
 have HI:=Lib.hid hI
 have HB0:Hid (Below w.heap.size w w):=Lib.hid (Below.refl _ w)
 have c44:=h1.head
 clear h1 h2 hF hI
 by_cases hlen:es1.length=es2.length
 ·have hq:((es1.length:Int) !=(es2.length:Int))=false:=by simp[hlen]
  have HR:Hid (decide (es1.length=es2.length)=true):=Lib.hid (by simp[hlen])
  clear hlen
  go_enter Tryz.func310,Tryz.ntmps310
  go_wp2_with (go_at_call 96;(first|(with_reducible refine(HL1.out _ rfl).mono ?_)|(with_reducible refine(HL2.out _ rfl).mono ?_));rintro e w1 ⟨rfl,hw1⟩;have hw2:=hw1.symm;clear hw1;subst hw2)
  go_loopw [6] (fun p wr=> ∃j:Nat,j≤es1.length∧p=entP g1 es1.length j∧Hid (∀q,q<j→F q=true)∧Hid (Below w.heap.size w wr)) (fun p _=>offOf p)
  case atStart=>exact⟨0,Nat.zero_le _,rfl,Lib.hid fun q h=>absurd h (Nat.not_lt_zero _),HB0⟩
  case round=>
   obtain⟨j,hj0,rfl,HQ,HB⟩:=hrel
   by_cases hlt:j<es1.length
   ·rw[entP_some hlt]
    obtain⟨k1,_,k3⟩:=(H1.out.below HB.out).ent hn1 j hlt
    obtain⟨TK,kx,hk⟩:=HI.out j hlt
    have HFj:=Lib.hid (HF.out j hlt)
    obtain⟨b,hb⟩: ∃b,F j=b:=⟨_,rfl⟩
    have HBQ:=Lib.hid hb
    rw[hk,hb] at HFj
    rw[hk] at k1
    have HX:Hid (∀W,Below wr.heap.size wr W→W.cell? ⟨g1,36-5*j+3,none⟩=some (entP g1 es1.length (j+1))):=Lib.hid fun W hW=>(hW.cell (p:=⟨g1,_,none⟩) (lt_of_cell k3)).trans k3
    have HM:=Lib.hid (off_next (g:=g1) hlt hn1)
    clear hk hb k3
    cases b
    ·go_wp2_with (go_at_call 313;(with_reducible refine(HFj.out _ HB.out).mono ?_);rintro e w1 ⟨rfl,hb1⟩;(replace HB:Hid (Below w.heap.size w w1):=Lib.hid (HB.out.trans (hb1.mono HB.out.size)));clear hb1)
     (try rw[Exit.noGoto_ret])
     go_ret2
     exact⟨by rw[allAt_false hlt HBQ.out,Bool.and_false];rfl,HB.out⟩
    ·go_wp2_with (go_at_call 313;(with_reducible refine(HFj.out _ HB.out).mono ?_);rintro e w1 ⟨rfl,hb1⟩;have y3:=HX.out _ hb1;(replace HB:Hid (Below w.heap.size w w1):=Lib.hid (HB.out.trans (hb1.mono HB.out.size)));clear hb1)
     go_roundw
     case rel=>exact⟨j+1,by omega,rfl,Lib.hid (fun q hq=>by
      by_cases h9:q<j
      ·exact HQ.out q h9
      ·obtain rfl:q=j:=by omega
       exact HBQ.out),HB⟩
     case measure=>exact HM.out
   ·obtain rfl:j=es1.length:=by omega
    rw[entP_none]
    go_wp2_with fail
    go_ret2
    exact⟨by rw[HR.out,allAt_true HQ.out];rfl,HB.out⟩
 ·have hq:((es1.length:Int) !=(es2.length:Int))=true:=by simp;omega
  have HR:Hid (decide (es1.length=es2.length)=false):=Lib.hid (by simp[hlen])
  clear hlen c44
  go_enter Tryz.func310,Tryz.ntmps310
  go_wp2_with (go_at_call 96;(first|(with_reducible refine(HL1.out _ rfl).mono ?_)|(with_reducible refine(HL2.out _ rfl).mono ?_));rintro e w1 ⟨rfl,hw1⟩;have hw2:=hw1.symm;clear hw1;subst hw2)
  go_ret2
  exact⟨by rw[HR.out];rfl,HB0.out⟩
set_option maxRecDepth 100000 in
set_option maxHeartbeats 1000000 in
theorem dictsEqual_c (g1 g2:Nat) (t1 t2:Bool) (es1 es2:List HEnt) (i1 i2 d d':Int) (F:Nat→Option Value) (E:Nat→Bool) (w:World) (h1:HTab w g1 183 t1 es1 i1) (h2:HTab w g2 183 t2 es2 i2) (hn1:es1.length≤8) (hn2:es2.length≤8) (hd:d-1=d') (hw:IntKind.i64.wrap d'=d')
 (hI: ∀j (hj:j<es1.length),(∃T x,es1[j].k= .iface T x)∧(∃T x,es1[j].v= .iface T x)∧ ∀v,F j=some v→ ∃T x,v= .iface T x)
 (hG: ∀j (hj:j<es1.length) W,Below w.heap.size w W→Calls Tryz.prog 302 #[.pointer (some ⟨g2,0,none⟩),es1[j].k] W fun e W'=>GetR (F j) e∧Below W.heap.size W W')
 (hE: ∀j (hj:j<es1.length) v,F j=some v→ ∀W,Below w.heap.size w W→Calls Tryz.prog 149 #[es1[j].v,v, .int .i64 d'] W fun e W'=>e= .returned (.tuple #[.bool (E j), .nilIface])∧Below W.heap.size W W'):
 Calls Tryz.prog 301 #[.pointer (some ⟨g1,0,none⟩), .pointer (some ⟨g2,0,none⟩), .int .i64 d] w fun e w'=>e= .returned (.tuple #[.bool (decide (es1.length=es2.length)&&allAt es1.length (fun j=>(F j).isSome&&E j)), .nilIface])∧Below w.heap.size w w':=by
 have HL1:=Lib.hid (fun W (hW:W=w)=>dictLen_c g1 t1 es1 i1 w h1 (by omega))
 have HL2:=Lib.hid (fun W (hW:W=w)=>dictLen_c g2 t2 es2 i2 w h2 (by omega))
 have H1:=Lib.hid h1
 have HF:=Lib.hid (And.intro hG hE)
 have HI:=Lib.hid hI
 have HB0:Hid (Below w.heap.size w w):=Lib.hid (Below.refl _ w)
 have c44:=h1.head
 have hdw:IntKind.i64.wrap (d-1)=d':=by rw[hd];exact hw
 clear h1 h2 hG hE hI hd hw
 by_cases hlen:es1.length=es2.length
 ·have hq:((es1.length:Int) !=(es2.length:Int))=false:=by simp[hlen]
  have HR:Hid (decide (es1.length=es2.length)=true):=Lib.hid (by simp[hlen])
  clear hlen
  go_enter Tryz.func301,Tryz.ntmps301
  go_wp2_with (go_at_call 94;(first|(with_reducible refine(HL1.out _ rfl).mono ?_)|(with_reducible refine(HL2.out _ rfl).mono ?_));rintro e w1 ⟨rfl,hw1⟩;have hw2:=hw1.symm;clear hw1;subst hw2)
  go_loopw [8] (fun p wr=> ∃j:Nat,j≤es1.length∧p=entP g1 es1.length j∧Hid (∀q,q<j→((F q).isSome&&E q)=true)∧Hid (Below w.heap.size w wr)) (fun p _=>offOf p)
  case atStart=>exact⟨0,Nat.zero_le _,rfl,Lib.hid fun q h=>absurd h (Nat.not_lt_zero _),HB0⟩
  case round=>
   obtain⟨j,hj0,rfl,HQ,HB⟩:=hrel
   by_cases hlt:j<es1.length
   ·rw[entP_some hlt]
    obtain⟨k1,k2,k3⟩:=(H1.out.below HB.out).ent hn1 j hlt
    obtain⟨⟨TK,kx,hk⟩,⟨TV,vx,hv⟩,hif⟩:=HI.out j hlt
    have HG:=Lib.hid (HF.out.1 j hlt)
    have HE:=Lib.hid (HF.out.2 j hlt)
    obtain⟨o,ho⟩: ∃o,F j=o:=⟨_,rfl⟩
    obtain⟨b,hb⟩: ∃b,E j=b:=⟨_,rfl⟩
    have HBQ:Hid (((F j).isSome&&E j)=(o.isSome&&b)):=Lib.hid (by rw[ho,hb])
    have HIF:=Lib.hid (fun v (e:F j=some v)=>hif v e)
    rw[ho] at HG HIF
    have HE2:Hid (∀v,o=some v→ ∀W,Below w.heap.size w W→Calls Tryz.prog 149 #[.iface TV vx,v, .int .i64 d'] W fun e W'=>e= .returned (.tuple #[.bool b, .nilIface])∧Below W.heap.size W W'):=Lib.hid fun v e=>by
     have:=HE.out v (ho.trans e)
     rw[hv,hb] at this
     exact this
    rw[hk] at HG k1
    rw[hv] at k2
    have HX:Hid (∀W,Below wr.heap.size wr W→W.cell? ⟨g1,36-5*j+3,none⟩=some (entP g1 es1.length (j+1))):=Lib.hid fun W hW=>(hW.cell (p:=⟨g1,_,none⟩) (lt_of_cell k3)).trans k3
    have HM:=Lib.hid (off_next (g:=g1) hlt hn1)
    clear hk hv hif HE ho hb k3 c44
    go_upto_region 6 with fail
    go_region_held3 (fun W=>W.cell? ⟨g1,36-5*j+1,none⟩=some (.iface TK kx)∧W.cell? ⟨g1,36-5*j+2,none⟩=some (.iface TV vx)) (first|(with_reducible exact⟨k1,k2⟩)|exact⟨k1,k2⟩) (fail)
    cases o with
    |none=>
     go_wp2_with (go_at_call 302;(with_reducible refine(HG.out _ (by first|exact HB.out|exact HB.out.drew)).mono ?_);rintro e w1 ⟨he,hb1⟩;obtain rfl:e= .returned (.tuple #[.iface 137 (.int .u8 0), .bool false, .nilIface]):=he;(replace HB:Hid (Below w.heap.size w w1):=Lib.hid (by first|exact HB.out.trans (hb1.mono HB.out.size)|exact HB.out.drew.trans (hb1.mono HB.out.size)));clear hb1)
     (try rw[Exit.noGoto_ret])
     go_ret2
     exact⟨by rw[allAt_false hlt (HBQ.out.trans rfl),Bool.and_false];rfl,HB.out⟩
    |some v=>
     obtain⟨TU,ux,rfl⟩:=HIF.out v rfl
     have HE3:=Lib.hid (HE2.out _ rfl)
     clear HE2 HIF
     cases b
     ·go_wp2_with (first
      |(go_at_call 302;(with_reducible refine(HG.out _ (by first|exact HB.out|exact HB.out.drew)).mono ?_);rintro e w1 ⟨he,hb1⟩;obtain rfl:e= .returned (.tuple #[.iface TU ux, .bool true, .nilIface]):=he;(replace HB:Hid (Below w.heap.size w w1):=Lib.hid (by first|exact HB.out.trans (hb1.mono HB.out.size)|exact HB.out.drew.trans (hb1.mono HB.out.size)));clear hb1)
      |(go_at_call 149;(with_reducible refine(HE3.out _ HB.out).mono ?_);rintro e w2 ⟨rfl,hb2⟩;(replace HB:Hid (Below w.heap.size w w2):=Lib.hid (HB.out.trans (hb2.mono HB.out.size)));clear hb2))
      (try rw[Exit.noGoto_ret])
      go_ret2
      exact⟨by rw[allAt_false hlt (HBQ.out.trans rfl),Bool.and_false];rfl,HB.out⟩
     ·go_wp2_with (first
      |(go_at_call 302;(with_reducible refine(HG.out _ (by first|exact HB.out|exact HB.out.drew)).mono ?_);rintro e w1 ⟨he,hb1⟩;obtain rfl:e= .returned (.tuple #[.iface TU ux, .bool true, .nilIface]):=he;have HB1:=Lib.hid hb1;(replace HB:Hid (Below w.heap.size w w1):=Lib.hid (by first|exact HB.out.trans (hb1.mono HB.out.size)|exact HB.out.drew.trans (hb1.mono HB.out.size)));clear hb1)
      |(go_at_call 149;(with_reducible refine(HE3.out _ HB.out).mono ?_);rintro e w2 ⟨rfl,hb2⟩;have y3:=((H1.out.below (HB.out.trans (hb2.mono HB.out.size))).ent hn1 j hlt).2.2;(replace HB:Hid (Below w.heap.size w w2):=Lib.hid (HB.out.trans (hb2.mono HB.out.size)));clear hb2))
      go_roundw
      case rel=>exact⟨j+1,by omega,rfl,Lib.hid (fun q hq=>by
       by_cases h9:q<j
       ·exact HQ.out q h9
       ·obtain rfl:q=j:=by omega
        exact HBQ.out.trans rfl),HB⟩
      case measure=>exact HM.out
   ·obtain rfl:j=es1.length:=by omega
    rw[entP_none]
    go_wp2_with fail
    go_ret2
    exact⟨by rw[HR.out,allAt_true HQ.out];rfl,HB.out⟩
 ·have hq:((es1.length:Int) !=(es2.length:Int))=true:=by simp;omega
  have HR:Hid (decide (es1.length=es2.length)=false):=Lib.hid (by simp[hlen])
  clear hlen c44
  go_enter Tryz.func301,Tryz.ntmps301
  go_wp2_with (go_at_call 94;(first|(with_reducible refine(HL1.out _ rfl).mono ?_)|(with_reducible refine(HL2.out _ rfl).mono ?_));rintro e w1 ⟨rfl,hw1⟩;have hw2:=hw1.symm;clear hw1;subst hw2)
  go_ret2
  exact⟨by rw[HR.out];rfl,HB0.out⟩
def onlyEq (op:Int) (b:Bool):Option Bool:=if op=37 then some b else if op=38 then some (!b) else none
theorem errNewR (s:ByteArray) (w:World):Calls Tryz.prog 59 #[.string s] w fun e w'=>(∃T v,e= .returned (.iface T v))∧Below w.heap.size w w':=by
 refine(errNew_c s w).mono ?_
 rintro e w1 ⟨a,rfl,hb⟩
 exact⟨⟨_,_,rfl⟩,hb⟩
set_option maxRecDepth 100000 in
theorem cdOtherG_c (T1 T2:TypeId) (x1 x2:Value) (op d:Int) (w:World) (ho:OpOk op) (hd: ¬d<1) (hd2:d≤1000) (h1:NotNum T1 x1)
 (HS:Hid (Calls Tryz.prog 60 #[.iface T1 x1, .iface T2 x2] w fun e w'=>e= .returned (.bool false)∧Below w.heap.size w w')):Calls Tryz.prog 29 #[.int .i8 op, .iface T1 x1, .iface T2 x2, .int .i64 d] w fun e w'=>CmpR (onlyEq op false) e∧Below w.heap.size w w':=by
 obtain⟨ha1,ha2⟩:=h1
 unfold OpOk at ho
 rcases ho with rfl|rfl|rfl|rfl|rfl|rfl
 all_goals
  go_enter Tryz.func29,Tryz.ntmps29
  go_wp2_with (first
   |(go_at_call 60;(with_reducible refine HS.out.mono ?_);rintro e w1 ⟨rfl,hb1⟩;have HB:=Lib.hid hb1;clear hb1)
   |(go_at_call 59;(with_reducible refine(errNewR _ _).mono ?_);rintro e w2 ⟨⟨TE,ve,rfl⟩,hb2⟩;replace HB:=Lib.hid (HB.out.trans (hb2.mono HB.out.size));clear hb2))
  go_ret2
  first|exact⟨rfl,HB.out⟩|exact⟨⟨_,_,rfl⟩,HB.out⟩
set_option maxRecDepth 100000 in
theorem cdIntOG_c (T2:TypeId) (y:Int) (p:Option Addr) (x2:Value) (op d:Int) (w:World) (ho:OpOk op) (hd: ¬d<1) (hd2:d≤1000) (h1:NotNum T2 x2)
 (HS:Hid (Calls Tryz.prog 60 #[.iface 122 (.agg #[.int .i64 y, .pointer p]), .iface T2 x2] w fun e w'=>e= .returned (.bool false)∧Below w.heap.size w w')):Calls Tryz.prog 29 #[.int .i8 op, .iface 122 (.agg #[.int .i64 y, .pointer p]), .iface T2 x2, .int .i64 d] w fun e w'=>CmpR (onlyEq op false) e∧Below w.heap.size w w':=by
 obtain⟨ha1,ha2⟩:=h1
 have ha3:=as122Int
 unfold OpOk at ho
 rcases ho with rfl|rfl|rfl|rfl|rfl|rfl
 all_goals
  go_enter Tryz.func29,Tryz.ntmps29
  go_wp2_with (first
   |(go_at_call 60;(with_reducible refine HS.out.mono ?_);rintro e w1 ⟨rfl,hb1⟩;have HB:=Lib.hid (hb1.alloc hb1.size (.cells #[.int .i64 y, .pointer p] 122));clear hb1)
   |(go_at_call 59;(with_reducible refine(errNewR _ _).mono ?_);rintro e w2 ⟨⟨TE,ve,rfl⟩,hb2⟩;replace HB:=Lib.hid (HB.out.trans (hb2.mono HB.out.size));clear hb2))
  go_ret2
  first|exact⟨rfl,HB.out⟩|exact⟨⟨_,_,rfl⟩,HB.out⟩
set_option maxRecDepth 100000 in
theorem cdFloatOG_c (T2:TypeId) (b:Nat) (x2:Value) (op d:Int) (w:World) (ho:OpOk op) (hd: ¬d<1) (hd2:d≤1000) (h1:NotNum T2 x2)
 (HS:Hid (Calls Tryz.prog 60 #[.iface 123 (.float .f64 b), .iface T2 x2] w fun e w'=>e= .returned (.bool false)∧Below w.heap.size w w')):Calls Tryz.prog 29 #[.int .i8 op, .iface 123 (.float .f64 b), .iface T2 x2, .int .i64 d] w fun e w'=>CmpR (onlyEq op false) e∧Below w.heap.size w w':=by
 obtain⟨ha1,ha2⟩:=h1
 have ha3:=as122Float
 have ha4:=as123Float
 unfold OpOk at ho
 rcases ho with rfl|rfl|rfl|rfl|rfl|rfl
 all_goals
  go_enter Tryz.func29,Tryz.ntmps29
  go_wp2_with (first
   |(go_at_call 60;(with_reducible refine HS.out.mono ?_);rintro e w1 ⟨rfl,hb1⟩;have HBA:=Lib.hid (fun o=>hb1.alloc hb1.size o);clear hb1)
   |(go_at_call 59;(with_reducible refine(errNewR _ _).mono ?_);rintro e w2 ⟨⟨TE,ve,rfl⟩,hb2⟩;have HB:Hid (Below w.heap.size w w2):=Lib.hid ((HBA.out _).trans (hb2.mono (HBA.out _).size));clear hb2))
  go_ret2
  first|exact⟨rfl,HBA.out _⟩|exact⟨⟨_,_,rfl⟩,HB.out⟩
theorem neqNone (w:World):(binOp .neq 57 (.iface 137 (.int .u8 0)) (.iface 137 (.int .u8 0))).run Tryz.prog w= .ok (.bool false) w:=by kernel_rfl
set_option maxRecDepth 100000 in
theorem cdNoneG_c (op d:Int) (w:World) (ho:OpOk op) (hd: ¬d<1) (hd2:d≤1000):Calls Tryz.prog 29 #[.int .i8 op, .iface 137 (.int .u8 0), .iface 137 (.int .u8 0), .int .i64 d] w fun e w'=>CmpR (onlyEq op true) e∧Below w.heap.size w w':=by
 have h109:=as109NoneType
 have h113:=as113NoneType
 have hq:=eqlNone
 have hq2:=neqNone
 have HS:Hid (Calls Tryz.prog 60 #[_,_] w fun e w'=>e= .returned (.bool true)∧Below w.heap.size w w'):=Lib.hid (sameType_c 0 0 _ _ Sca.none Sca.none w rfl rfl)
 unfold OpOk at ho
 rcases ho with rfl|rfl|rfl|rfl|rfl|rfl
 all_goals
  go_enter Tryz.func29,Tryz.ntmps29
  go_wp2_with (first
   |(go_at_call 60;(with_reducible refine HS.out.mono ?_);rintro e w1 ⟨rfl,hb1⟩;have HB:=Lib.hid hb1;clear hb1)
   |(go_at_call 59;(with_reducible refine(errNewR _ _).mono ?_);rintro e w2 ⟨⟨TE,ve,rfl⟩,hb2⟩;replace HB:=Lib.hid (HB.out.trans (hb2.mono HB.out.size));clear hb2))
  go_ret2
  first|exact⟨rfl,HB.out⟩|exact⟨⟨_,_,rfl⟩,HB.out⟩
set_option maxRecDepth 100000 in
theorem listSame_c (g1 g2:Nat) (s1 s2:Value) (op d:Int) (o:Option Bool) (w:World) (h1:LT w g1 s1) (h2:LT w g2 s2)
 (HC:Hid (∀W,Below w.heap.size w W→Calls Tryz.prog 284 #[.int .i8 op,s1,s2, .int .i64 d] W fun e W'=>CmpR o e∧Below W.heap.size W W')):
 Calls Tryz.prog 277 #[.pointer (some ⟨g1,0,none⟩), .int .i8 op, .iface 82 (.pointer (some ⟨g2,0,none⟩)), .int .i64 d] w fun e w'=>CmpR o e∧Below w.heap.size w w':=by
 have hta:=assertList1
 have k1:w.cell? ⟨g1,0,none⟩=some s1:=blk_cell h1 0 _ rfl
 have k2:w.cell? ⟨g2,0,none⟩=some s2:=blk_cell h2 0 _ rfl
 have HB0:Hid (Below w.heap.size w w):=Lib.hid (Below.refl _ w)
 have HK:Hid (∀W,Below w.heap.size w W→W.cell? ⟨g1,0,none⟩=some s1∧W.cell? ⟨g2,0,none⟩=some s2):=Lib.hid fun W hW=>⟨(hW.cell (p:=⟨g1,0,none⟩) (lt_of_cell k1)).trans k1,(hW.cell (p:=⟨g2,0,none⟩) (lt_of_cell k2)).trans k2⟩
 clear h1 h2
 go_enter Tryz.func277,Tryz.ntmps277
 go_upto_region 2 with fail
 cases o
 ·go_region_held3 (fun W=>W.cell? ⟨g1,0,none⟩=some s1∧W.cell? ⟨g2,0,none⟩=some s2) (first|(with_reducible exact⟨k1,k2⟩)|(with_reducible exact HK.out _ HB.out)|exact HK.out _ HB0.out.drew|exact⟨k1,k2⟩) (first|(go_at_call 284;(with_reducible refine(HC.out _ (by first|exact HB0.out|exact HB0.out.drew)).mono ?_);rintro e w1 ⟨⟨T2,a2,rfl⟩,hb1⟩;have HB:Hid (Below w.heap.size w w1):=Lib.hid (by first|exact hb1|exact HB0.out.drew.trans (hb1.mono HB0.out.drew.size));clear hb1))
  all_goals
   go_wp2_with fail
   go_ret2
   exact⟨⟨_,_,rfl⟩,HB.out⟩
 ·go_region_held3 (fun W=>W.cell? ⟨g1,0,none⟩=some s1∧W.cell? ⟨g2,0,none⟩=some s2) (first|(with_reducible exact⟨k1,k2⟩)|(with_reducible exact HK.out _ HB.out)|exact HK.out _ HB0.out.drew|exact⟨k1,k2⟩) (first|(go_at_call 284;(with_reducible refine(HC.out _ (by first|exact HB0.out|exact HB0.out.drew)).mono ?_);rintro e w1 ⟨rfl,hb1⟩;have HB:Hid (Below w.heap.size w w1):=Lib.hid (by first|exact hb1|exact HB0.out.drew.trans (hb1.mono HB0.out.drew.size));clear hb1))
  all_goals
   go_wp2_with fail
   go_ret2
   exact⟨rfl,HB.out⟩
set_option maxRecDepth 100000 in
theorem dictSame_c (g1 g2:Nat) (op d:Int) (b:Bool) (w:World) (ho:OpOk op)
 (HC:Hid (Calls Tryz.prog 301 #[.pointer (some ⟨g1,0,none⟩), .pointer (some ⟨g2,0,none⟩), .int .i64 d] w fun e w'=>e= .returned (.tuple #[.bool b, .nilIface])∧Below w.heap.size w w')):
 Calls Tryz.prog 295 #[.pointer (some ⟨g1,0,none⟩), .int .i8 op, .iface 99 (.pointer (some ⟨g2,0,none⟩)), .int .i64 d] w fun e w'=>CmpR (onlyEq op b) e∧Below w.heap.size w w':=by
 have hta:=assertDict1
 have HB0:Hid (Below w.heap.size w w):=Lib.hid (Below.refl _ w)
 unfold OpOk at ho
 rcases ho with rfl|rfl|rfl|rfl|rfl|rfl
 all_goals
  go_enter Tryz.func295,Tryz.ntmps295
  go_wp2_with (first
   |(go_at_call 301;(with_reducible refine HC.out.mono ?_);rintro e w1 ⟨rfl,hb1⟩;have HB:=Lib.hid hb1;clear hb1)
   |(go_at_call 59;(with_reducible refine(errNewR _ _).mono ?_);rintro e w2 ⟨⟨TE,ve,rfl⟩,hb2⟩;have HB:=Lib.hid hb2;clear hb2))
  go_ret2
  first|exact⟨rfl,HB.out⟩|exact⟨⟨_,_,rfl⟩,HB.out⟩
def tokOf (k:Int):Int:=if k=13 then 37 else if k=14 then 38 else if k=15 then 33 else if k=16 then 36 else if k=17 then 34 else 35
def KOk (k:Int):Prop:=k=13∨k=14∨k=15∨k=16∨k=17∨k=18
theorem KOk.tok {k:Int} (h:KOk k):OpOk (tokOf k):=by
 unfold KOk at h
 unfold OpOk
 rcases h with rfl|rfl|rfl|rfl|rfl|rfl<;>simp[tokOf]
set_option maxRecDepth 100000 in
theorem holds_c (k c:Int) (w:World) (h:KOk k):Calls Tryz.prog 32 #[.int .i64 k, .int .i64 c] w fun e w'=>e= .returned (.bool (tw (tokOf k) c))∧w'=w:=by
 unfold KOk at h
 rcases h with rfl|rfl|rfl|rfl|rfl|rfl
 all_goals
  go_enter Tryz.func32,Tryz.ntmps32
  go_wp2
  go_ret
  exact⟨rfl,rfl⟩
set_option maxRecDepth 100000 in
theorem cmpLengths_c (a b:Int) (w:World):Calls Tryz.prog 34 #[.int .i64 a, .int .i64 b] w fun e w'=>e= .returned (.int .i64 (sgn (a-b)))∧w'=w:=by
 rcases Int.lt_trichotomy a b with h|h|h
 ·have hs:Hid (sgn (a-b)= -1):=Lib.hid (by unfold sgn;rw[if_pos (by omega)])
  go_enter Tryz.func34,Tryz.ntmps34
  go_wp2
  go_ret
  exact⟨by rw[hs.out];rfl,rfl⟩
 ·subst h
  have hs:Hid (sgn (a-a)=0):=Lib.hid (by simp[sgn])
  go_enter Tryz.func34,Tryz.ntmps34
  go_wp2
  go_ret
  exact⟨by rw[hs.out];rfl,rfl⟩
 ·have hs:Hid (sgn (a-b)=1):=Lib.hid (by unfold sgn;rw[if_neg (by omega),if_neg (by omega)])
  have h2: ¬a<b:=by omega
  go_enter Tryz.func34,Tryz.ntmps34
  go_wp2
  go_ret
  exact⟨by rw[hs.out];rfl,rfl⟩
set_option maxRecDepth 100000 in
theorem comparing_c (k:Int) (w:World) (h:KOk k):Calls Tryz.prog 28 #[.int .i64 k] w fun e w'=>e= .returned (.tuple #[.int .i8 (tokOf k), .bool true])∧Below w.heap.size w w':=by
 have HB:Hid (∀o,Below w.heap.size w (w.alloc o)):=Lib.hid fun o=>(Below.refl _ w).alloc (Nat.le_refl _) o
 unfold KOk at h
 rcases h with rfl|rfl|rfl|rfl|rfl|rfl
 all_goals
  go_enter Tryz.func28,Tryz.ntmps28
  go_wp2
  go_ret2
  exact⟨rfl,HB.out _⟩
theorem cmpB_skip: ∀(j:Nat) (la lb:List UInt8) (h1:j≤la.length) (h2:j≤lb.length),(∀q (hq:q<j),la[q]'(by omega)=lb[q]'(by omega))→Lib.compareBytes la lb=Lib.compareBytes (la.drop j) (lb.drop j)
 |0,_,_,_,_,_=>rfl
 |j+1,[],_,h1,_,_=>absurd h1 (by simp)
 |j+1,_::_,[],_,h2,_=>absurd h2 (by simp)
 |j+1,x::xs,y::ys,h1,h2,h=>by
  have e:x=y:=h 0 (by omega)
  subst e
  have hl: ¬x<x:=UInt8.lt_irrefl x
  show Lib.compareBytes (x::xs) (x::ys)=Lib.compareBytes (xs.drop j) (ys.drop j)
  rw[←cmpB_skip j xs ys (by simpa using h1) (by simpa using h2) (fun q hq=>by simpa using h (q+1) (by omega))]
  simp[Lib.compareBytes,hl]
theorem cmpB_at (j:Nat) (la lb:List UInt8) (h1:j<la.length) (h2:j<lb.length) (h: ∀q (hq:q<j),la[q]'(by omega)=lb[q]'(by omega)) (hne:la[j]≠lb[j]):Lib.compareBytes la lb=if la[j]<lb[j] then-1 else 1:=by
  rw[cmpB_skip j la lb (by omega) (by omega) h,List.drop_eq_getElem_cons h1,List.drop_eq_getElem_cons h2]
  unfold Lib.compareBytes
  by_cases hl:la[j]<lb[j]
  ·rw[if_pos hl,if_pos hl]
  · have hg:lb[j]<la[j]:=by
      rcases UInt8.lt_or_lt_of_ne hne with h|h
      ·exact absurd h hl
      ·exact h
    rw[if_neg hl,if_pos hg,if_neg hl]
theorem cmpB_end (la lb:List UInt8) (j:Nat) (h1:j≤la.length) (h2:j≤lb.length) (hj: ¬(j<la.length∧j<lb.length)) (h: ∀q (hq:q<j),la[q]'(by omega)=lb[q]'(by omega)):Lib.compareBytes la lb=sgn ((la.length:Int)-lb.length):=by
 rw[cmpB_skip j la lb h1 h2 h]
 by_cases e1:j=la.length
 ·by_cases e2:j=lb.length
  ·rw[List.drop_of_length_le (show la.length≤j by omega),List.drop_of_length_le (show lb.length≤j by omega)]
   unfold sgn
   rw[if_neg (by omega),if_pos (by omega)];rfl
  ·rw[List.drop_of_length_le (show la.length≤j by omega),List.drop_eq_getElem_cons (show j<lb.length by omega)]
   unfold sgn
   rw[if_pos (by omega)];rfl
 ·rw[List.drop_eq_getElem_cons (show j<la.length by omega),List.drop_of_length_le (show lb.length≤j by omega)]
  unfold sgn
  rw[if_neg (by omega),if_neg (by omega)];rfl
set_option maxRecDepth 100000 in
set_option maxHeartbeats 1000000 in
theorem cmpTexts_c (a b:ByteArray) (w:World) (ha:a.size≤2147483647) (hb:b.size≤2147483647):Calls Tryz.prog 35 #[.string a, .string b] w fun e w'=>e= .returned (.int .i64 (Lib.compareBytes a.data.toList b.data.toList))∧Below w.heap.size w w':=by
 have HB0:Hid (Below w.heap.size w w):=Lib.hid (Below.refl _ w)
 have HA:=Lib.hid (And.intro ha hb)
 go_enter Tryz.func35,Tryz.ntmps35
 go_wp2_with fail
 go_loopw [5] (fun i wr=> ∃k:Nat,k≤a.size∧k≤b.size∧i= .int .i64 k∧Hid (∀q (h1:q<a.size) (h2:q<b.size),q<k→a[q]=b[q])∧Hid (Below w.heap.size w wr)) (fun i _=>a.size-(intOf i).toNat)
 case atStart=>exact⟨0,Nat.zero_le _,Nat.zero_le _,rfl,Lib.hid fun q _ _ h=>absurd h (Nat.not_lt_zero _),HB0⟩
 case round=>
  obtain⟨k,hk1,hk2,rfl,HQ,HB⟩:=hrel
  by_cases hlt:k<a.size∧k<b.size
  ·obtain⟨l1,l2⟩:=hlt
   go_upto_region 4 with fail
   obtain⟨p,hp⟩: ∃p,a[k]=p:=⟨_,rfl⟩
   obtain⟨r,hr⟩: ∃r,b[k]=r:=⟨_,rfl⟩
   have hrp:Hid (∀q (h1:q<k),a.data.toList[q]'(by simp;omega)=b.data.toList[q]'(by simp;omega)):=Lib.hid fun q hq=>HQ.out q (by omega) (by omega) hq
   have HAT:Hid (p≠r→Lib.compareBytes a.data.toList b.data.toList=if p<r then-1 else 1):=Lib.hid fun hne=>by
    have:=cmpB_at k a.data.toList b.data.toList (by simpa using l1) (by simpa using l2) hrp.out (by show a[k]≠b[k];rw[hp,hr];exact hne)
    rw[this]
    show(if a[k]<b[k] then(-1:Int) else 1)=_
    rw[hp,hr]
   have HE:=Lib.hid (And.intro hp hr)
   have hq1:((a[k].toNat:Int))=(p.toNat:Int):=by rw[hp]
   have hq2:((b[k].toNat:Int))=(r.toNat:Int):=by rw[hr]
   go_quiet (fail)
   by_cases hne:p=r
   ·subst hne
    have e1:((p.toNat:Int) !=(p.toNat:Int))=false:=by simp
    go_wp2_with fail
    go_roundw
    case rel=>exact⟨k+1,by omega,by omega,by go_num,Lib.hid (fun q h1 h2 hq=>by
     by_cases h9:q<k
     ·exact HQ.out q h1 h2 h9
     ·obtain rfl:q=k:=by omega
      exact HE.out.1.trans HE.out.2.symm),Lib.hid (pw_below_drewN HB.out _)⟩
    case measure=>simp[intOf];omega
   ·have hne2: ¬p.toNat=r.toNat:=fun e=>hne (UInt8.toNat_inj.1 e)
    have e1:((p.toNat:Int) !=(r.toNat:Int))=true:=by simp;omega
    have HA1:=Lib.hid (HAT.out hne)
    by_cases hl:p<r
    all_goals
     first
      |(have HR:Hid (Lib.compareBytes a.data.toList b.data.toList= -1):=Lib.hid (HA1.out.trans (if_pos hl)))
      |(have HR:Hid (Lib.compareBytes a.data.toList b.data.toList=1):=Lib.hid (HA1.out.trans (if_neg hl)))
     have e2:decide ((p.toNat:Int)<(r.toNat:Int))=decide (p<r):=by
      rw[decide_eq_decide]
      exact⟨fun h=>UInt8.lt_iff_toNat_lt.2 (by omega),fun h=>by have:=UInt8.lt_iff_toNat_lt.1 h;omega⟩
     have e3:((p.toNat:Int)<(r.toNat:Int))=(p<r):=propext ⟨fun h=>UInt8.lt_iff_toNat_lt.2 (by omega),fun h=>by have:=UInt8.lt_iff_toNat_lt.1 h;omega⟩
     go_upto_region 5 with fail
     go_quiet (fail)
     simp only[e3] at*
     go_wp2_with fail
     (try rw[Exit.noGoto_ret])
     go_ret
     exact⟨by rw[HR.out];rfl,pw_below_drewN (pw_below_drewN HB.out _) _⟩
  ·have HEND:Hid (Lib.compareBytes a.data.toList b.data.toList=sgn ((a.size:Int)-b.size)):=Lib.hid (by
   have:=cmpB_end a.data.toList b.data.toList k (by simpa using hk1) (by simpa using hk2) (by simpa using hlt) (fun q hq=>HQ.out q (by omega) (by omega) hq)
   simpa using this)
   have hq3:k<a.size→ ¬k<b.size:=fun h1 h2=>hlt ⟨h1,h2⟩
   by_cases h1:k<a.size
   ·have h2:=hq3 h1
    clear hq3 hlt
    go_wp2_with (go_at_call 34;(with_reducible refine(cmpLengths_c _ _ _).mono ?_);rintro e w1 ⟨rfl,hw1⟩;have HW:=Lib.hid hw1;clear hw1)
    go_ret
    exact⟨by rw[HEND.out];rfl,by rw[HW.out];exact HB.out⟩
   ·clear hq3 hlt
    go_wp2_with (go_at_call 34;(with_reducible refine(cmpLengths_c _ _ _).mono ?_);rintro e w1 ⟨rfl,hw1⟩;have HW:=Lib.hid hw1;clear hw1)
    go_ret
    exact⟨by rw[HEND.out];rfl,by rw[HW.out];exact HB.out⟩
def subO (k:Int) (ab ba:Bool) (n m:Nat):Bool:=if k=15 then ab&&decide (n<m) else if k=16 then ab else if k=17 then ba&&decide (m<n) else ba
theorem two_new (w:World) (a b:Array Value):Below w.heap.size w ((w.alloc (.cells a 26)).alloc (.cells b 26))∧
 ((w.alloc (.cells a 26)).alloc (.cells b 26)).heap[w.heap.size]?=some (.cells a 26 (0,0))∧
 ((w.alloc (.cells a 26)).alloc (.cells b 26)).heap[w.heap.size+1]?=some (.cells b 26 (0,0)):=by
 have h1:Below w.heap.size w (w.alloc (.cells a 26)):=(Below.refl _ w).alloc (Nat.le_refl _) _
 have hs:(w.alloc (.cells a 26)).heap.size=w.heap.size+1:=Array.size_push _
 have h2:Below (w.alloc (.cells a 26)).heap.size (w.alloc (.cells a 26)) ((w.alloc (.cells a 26)).alloc (.cells b 26)):=(Below.refl _ _).alloc (Nat.le_refl _) _
 refine⟨h1.trans (h2.mono h1.size),blk_below (blk_new _ _) h2,?_⟩
 have:=blk_new (w.alloc (.cells a 26)) (.cells b 26)
 rw[hs] at this
 exact this
set_option maxRecDepth 100000 in
set_option maxHeartbeats 1000000 in
theorem subsets_c (k:Int) (x y:VT) (v1 v2:Value) (ab ba:Bool) (w:World) (hk:k=15∨k=16∨k=17∨k=18) (h1:VR w v1 x) (h2:VR w v2 y)
 (ha: ∀W,Below w.heap.size w W→Calls Tryz.prog 66 #[v1,v2] W fun e W'=>e= .returned (.bool ab)∧Below W.heap.size W W')
 (hb: ∀W,Below w.heap.size w W→Calls Tryz.prog 66 #[v2,v1] W fun e W'=>e= .returned (.bool ba)∧Below W.heap.size W W'):
 Calls Tryz.prog 36 #[.int .i64 k,v1,v2] w fun e w'=>e= .returned (.bool (subO k ab ba x.f5.length y.f5.length))∧Below w.heap.size w w':=by
 obtain⟨A2,c2,A5,c5,rfl,_⟩:=h1.open
 obtain⟨P2,p2,P5,p5,rfl,_⟩:=h2.open
 have HA:=Lib.hid ha
 have HB:=Lib.hid hb
 have H1:=Lib.hid (two_new w (six5 x A2 c2 A5 x.f5.length c5) (six5 y P2 p2 P5 y.f5.length p5))
 have H2:=Lib.hid (two_new w (six5 y P2 p2 P5 y.f5.length p5) (six5 x A2 c2 A5 x.f5.length c5))
 obtain⟨W1,hW1⟩: ∃W,W=(w.alloc (.cells (six5 x A2 c2 A5 x.f5.length c5) 26)).alloc (.cells (six5 y P2 p2 P5 y.f5.length p5) 26):=⟨_,rfl⟩
 obtain⟨W2,hW2⟩: ∃W,W=(w.alloc (.cells (six5 y P2 p2 P5 y.f5.length p5) 26)).alloc (.cells (six5 x A2 c2 A5 x.f5.length c5) 26):=⟨_,rfl⟩
 rw[←hW1] at H1
 rw[←hW2] at H2
 clear h1 h2 ha hb
 rcases hk with rfl|rfl|rfl|rfl
 all_goals
  go_enter Tryz.func36,Tryz.ntmps36
  go_wp2_with fail
  first
   |(rw[←hW1];clear hW1 hW2;with_reducible refine(HA.out _ H1.out.1).mono ?_;rintro e w1 ⟨rfl,hb1⟩;have hx:=blk_below H1.out.2.1 hb1;have hy:=blk_below H1.out.2.2 hb1;have HB1:=Lib.hid (H1.out.1.trans (hb1.mono H1.out.1.size));clear hb1;cases ab)
   |(rw[←hW2];clear hW1 hW2;with_reducible refine(HB.out _ H2.out.1).mono ?_;rintro e w1 ⟨rfl,hb1⟩;have hy:=blk_below H2.out.2.1 hb1;have hx:=blk_below H2.out.2.2 hb1;have HB1:=Lib.hid (H2.out.1.trans (hb1.mono H2.out.1.size));clear hb1;cases ba)
  all_goals
   obtain⟨z0,z1,z2,z3,z4,z5⟩:=cells6 hx
   obtain⟨y0,y1,y2,y3,y4,y5⟩:=cells6 hy
   clear hx hy
   go_wp2_with fail
   go_ret
   refine⟨?_,HB1.out⟩
   simp[subO]
end Go.Proofs.YtkplnbjgkhmbcaaGreatDoor
