/- Int1 Int2 Int3 Int4 IntV -/
import Derived.Test.YtkplnbjgkhmbcaaGreatDoorU01
import Derived.Laws.Pointers
import Derived.Lib.Builder
import Derived.Laws.IdiomCopy
import Derived.Lib.LazyBuf
import Derived.Deep.RegionWith
import Derived.LaidEqlPtr
import Derived.Stop.IfaceNil
import Derived.BigQuiet
namespace Go.Proofs.YtkplnbjgkhmbcaaGreatDoor
open Go.RowKit Go.Proofs.YtkplnbjgkhmbcaaGreatDoorW.PrintWords Go.Proofs.YtkplnbjgkhmbcaaGreatDoorW.PrintLast Go.Proofs.YtkplnbjgkhmbcaaGreatDoorW.PrintMore
set_option linter.unusedVariables false
set_option linter.unusedSimpArgs false
theorem blk_cell {w:World} {g:Nat} {t:TypeId} {cs:Array Value} (h:w.heap[g]?=some (.cells cs t (0,0))) (j:Nat) (v:Value) (hv:cs[j]?=some v):w.cell? ⟨g,j,none⟩=some v:=by
 simp[World.cell?,h,hv]
theorem blk_free {w:World} {g:Nat} {t:TypeId} {cs:Array Value} (h:w.heap[g]?=some (.cells cs t (0,0))) (j:Nat):w.frozen? ⟨g,j,none⟩=false:=by
 simp[World.frozen?,h]
theorem intInfo:(Tryz.prog.info? 196).map (fun i=>i.size)=some 2:=by kernel_rfl
structure BI (w:World) (g:Nat) (neg:Bool) (v:Value) (zs:List Int):Prop where
 blk:w.heap[g]?=some (.cells #[.bool neg,v] 196 (0,0))
 sl:Sl .u64 (g+1) w v zs
 words:Words zs
 top:Top zs
section
variable {w w':World} {g:Nat} {neg:Bool} {v:Value} {zs:List Int}
theorem BI.c0 (h:BI w g neg v zs):w.cell? ⟨g,0,none⟩=some (.bool neg):=blk_cell h.blk 0 _ rfl
theorem BI.c1 (h:BI w g neg v zs):w.cell? ⟨g,1,none⟩=some v:=blk_cell h.blk 1 _ rfl
theorem BI.f0 (h:BI w g neg v zs):w.frozen? ⟨g,0,none⟩=false:=blk_free h.blk 0
theorem BI.f1 (h:BI w g neg v zs):w.frozen? ⟨g,1,none⟩=false:=blk_free h.blk 1
theorem BI.lt (h:BI w g neg v zs):g<w.heap.size:=lt_of_cell h.c0
theorem BI.below (h:BI w g neg v zs) (hb:Below w.heap.size w w'):BI w' g neg v zs:=⟨blk_below h.blk hb,h.sl.below hb,h.words,h.top⟩
theorem BI.drew (h:BI w g neg v zs):BI w.drew g neg v zs:=⟨h.blk,h.sl,h.words,h.top⟩
theorem bi_set2 {b0 v0:Value} (hk:w.heap[g]?=some (.cells #[b0,v0] 196 (0,0)))
 (hs:Sl .u64 (g+1) w v zs) (hw:Words zs) (ht:Top zs):BI ((w.setCell ⟨g,1,none⟩ v).setCell ⟨g,0,none⟩ (.bool neg)) g neg v zs:=
 ⟨blk_put (blk_put hk 1 _ rfl) 0 _ rfl,(hs.setCell (p:=⟨g,1,none⟩) _ (by show g<g+1;omega)).setCell (p:=⟨g,0,none⟩) _ (by show g<g+1;omega),hw,ht⟩
theorem bi_neg {n0:Bool} (h:BI w g n0 v zs):BI (w.setCell ⟨g,0,none⟩ (.bool neg)) g neg v zs:=
 ⟨blk_put h.blk 0 _ rfl,h.sl.setCell (p:=⟨g,0,none⟩) _ (by show g<g+1;omega),h.words,h.top⟩
theorem ptr_same (w:World) (a:Addr):(binOp .neq 118 (.pointer (some a)) (.pointer (some a))).run Tryz.prog w= .ok (.bool false) w:=by
 obtain⟨i,hi,_⟩:=Option.map_eq_some_iff.1 intInfo
 exact Lib.run_neq_ptr_same w a Tryz.underlying118 hi
end
set_option maxRecDepth 100000 in
theorem intSetBytes_c (g B:Nat) (n0:Bool) (v:Value) (l:List Int) (w:World) (h:Sl .u8 B w v l) (hl:Bytes l) (hlen:l.length≤2147483647)
 (hk:w.heap[g]?=some (.cells #[.bool n0, .slice none 0 0] 196 (0,0))):
 Calls Tryz.prog 128 #[.pointer (some ⟨g,0,none⟩),v] w fun e w'=>e= .returned (.pointer (some ⟨g,0,none⟩))∧(∃u zs,BI w' g false u zs∧leN zs=beN l)∧Below g w w':=by
 have c0:=blk_cell hk 0 _ rfl
 have c1:=blk_cell hk 1 _ rfl
 have f0:=blk_free hk 0
 have f1:=blk_free hk 1
 have hlt:g<w.heap.size:=lt_of_cell c0
 have HK:=Lib.hid hk
 clear hk
 have HC:=Lib.hid (setBytes_c B v l w h hl hlen)
 obtain⟨A,c,rfl,_⟩:=h.c
 clear h hl
 go_enter Tryz.func128,Tryz.ntmps128
 go_wp2_with (go_at_call 151;refine HC.out.mono ?_;rintro e w1 ⟨u,zs,rfl,hs,h1,h2,h3,hb⟩;have c0':=(hb.cell (p:=⟨g,0,none⟩) hlt).trans c0;have c1':=(hb.cell (p:=⟨g,1,none⟩) hlt).trans c1;have f0':=(hb.frozen (p:=⟨g,0,none⟩) hlt).trans f0;have f1':=(hb.frozen (p:=⟨g,1,none⟩) hlt).trans f1;obtain⟨A1,k1,rfl,_⟩:=hs.c;have HS:=Lib.hid (hs.mono hlt);have HR:=Lib.hid (And.intro h1 (And.intro h2 h3));have HB:=Lib.hid hb;clear hs h1 h2 h3 hb)
 go_ret
 exact⟨rfl,⟨_,zs,bi_set2 (blk_below HK.out HB.out) HS.out HR.out.1 HR.out.2.1,HR.out.2.2⟩,((HB.out.mono (Nat.le_of_lt hlt)).setCell (Nat.le_refl _) _).setCell (Nat.le_refl _) _⟩
set_option maxRecDepth 100000 in
theorem intNeg_c (g:Nat) (n0:Bool) (v:Value) (zs:List Int) (w:World) (h:BI w g n0 v zs):
 Calls Tryz.prog 129 #[.pointer (some ⟨g,0,none⟩), .pointer (some ⟨g,0,none⟩)] w fun e w'=>e= .returned (.pointer (some ⟨g,0,none⟩))∧BI w' g (decide (0<zs.length)&&!n0) v zs∧Below g w w':=by
 have H:=Lib.hid h
 have c0:=h.c0
 have c1:=h.c1
 have f0:=h.f0
 have f1:=h.f1
 have hs:=h.sl
 have hpe:=fun w=>ptr_same w ⟨g,0,none⟩
 clear h
 obtain⟨A,c,rfl,_⟩:=hs.c
 clear hs
 cases n0
 all_goals
  by_cases hz:0<zs.length
  all_goals
   have hzb:=hz
   go_enter Tryz.func129,Tryz.ntmps129
   go_wp2_with (go_at_call 132;go_in)
 all_goals go_ret
 all_goals exact⟨rfl,by simpa [hz] using bi_neg H.out,(Below.refl g w).setCell (p:=⟨g,0,none⟩) (Nat.le_refl g) _⟩
structure Bits32 (m:Int) (n:Nat):Prop where
 small:n<32↔m<2147483648
 just:n=32↔(2147483648≤m∧m<4294967296)
theorem bits32_zero:Bits32 0 0:=⟨by omega,by omega⟩
theorem pow2_mono (a b:Nat) (h:a≤b):(2:Nat)^a≤2^b:=Nat.pow_le_pow_right (by omega) h
theorem bits32_one (x:Int) (h0:0<x) (h1:x<18446744073709551616):Bits32 x (Lib.bitLen x.toNat)∧0<Lib.bitLen x.toNat:=by
 obtain⟨k,hk1,hk2⟩: ∃k,2^k≤x.toNat∧x.toNat<2^(k+1):=⟨x.toNat.log2,Nat.log2_self_le (by omega),Nat.lt_log2_self⟩
 have hk:k<64:=by
  rcases Nat.lt_or_ge k 64 with h|h
  ·exact h
  ·have:(2:Nat)^64≤2^k:=Nat.pow_le_pow_right (by omega) h
   omega
 rw[bitLen_eq k x.toNat hk1 hk2 hk]
 have a1:k+1≤31→x.toNat<2147483648:=fun h=>by have:=pow2_mono (k+1) 31 h;omega
 have a2:31≤k→2147483648≤x.toNat:=fun h=>by have:=pow2_mono 31 k h;omega
 have a3:k+1≤32→x.toNat<4294967296:=fun h=>by have:=pow2_mono (k+1) 32 h;omega
 have a4:32≤k→4294967296≤x.toNat:=fun h=>by have:=pow2_mono 32 k h;omega
 exact⟨⟨by omega,by omega⟩,by omega⟩
theorem wpow_ge (n:Nat) (h:0<n):(18446744073709551616:Int)≤18446744073709551616^n:=by
 obtain⟨m,rfl⟩: ∃m,n=m+1:=⟨n-1,by omega⟩
 rw[Int.pow_succ]
 have:=wpos m
 omega
theorem bitLen_sl (B:Nat) (v:Value) (zs:List Int) (w:World) (h:Sl .u64 B w v zs) (hw:Words zs) (ht:Top zs) (hlen:zs.length≤4398046511104):
    Calls Tryz.prog 210 #[v] w fun e w'=> ∃n:Nat,e= .returned (.int .i64 n)∧Bits32 (leN zs) n∧w'=w:=by
  obtain⟨A,c,rfl,h1,h2,h3⟩:=h
  by_cases hne:zs=[]
  · subst hne
    refine(bitLen0_c c A w).mono ?_
    rintro e w' ⟨rfl,rfl⟩
    exact⟨0,rfl,bits32_zero,rfl⟩
  · obtain⟨b,o,rfl,hB,hlt,hc⟩:=h3 hne
    have hpos:0<zs.length:=List.length_pos_iff.2 hne
    have hx:=hw _ (List.getLast_mem hne)
    have hx0:=ht hne
    have hcl:=hc (zs.length-1) (by omega)
    rw[←List.getLast_eq_getElem hne] at hcl
    refine(bitLen_c b o zs.length c (zs.getLast hne) w hpos hlen (by omega) hx.2 hcl).mono ?_
    rintro e w' ⟨rfl,rfl⟩
    obtain⟨hb,hb0⟩:=bits32_one (zs.getLast hne) (by omega) hx.2
    refine⟨(zs.length-1)*64+Lib.bitLen (zs.getLast hne).toNat,congrArg (fun z=>Ending.returned (.int .i64 z)) (by omega),?_,rfl⟩
    by_cases h1:zs.length=1
    · obtain⟨x,rfl⟩: ∃x,zs=[x]:=by
        match zs,h1 with
        |[x],_=>exact⟨x,rfl⟩
      simpa [leN] using hb
    · have h4:=leN_top zs hw ht hne
      have h5:=wpow_ge (zs.length-1) (by omega)
      exact⟨by omega,by omega⟩
set_option maxRecDepth 100000 in
theorem intBitLen_c (g:Nat) (neg:Bool) (v:Value) (zs:List Int) (w:World) (h:BI w g neg v zs) (hlen:zs.length≤4398046511104):
 Calls Tryz.prog 182 #[.pointer (some ⟨g,0,none⟩)] w fun e w'=> ∃n:Nat,e= .returned (.int .i64 n)∧Bits32 (leN zs) n∧w'=w:=by
 have c1:=h.c1
 have c0:=h.c0
 have HC:=Lib.hid (bitLen_sl _ v zs w h.sl h.words h.top hlen)
 obtain⟨A,c,rfl,_⟩:=h.sl.c
 clear h
 go_enter Tryz.func182,Tryz.ntmps182
 go_wp2_with (go_at_call 210;refine HC.out.mono ?_;rintro e w1 ⟨n,rfl,hn,rfl⟩)
 go_ret
 exact⟨n,rfl,hn,rfl⟩
def lowW (zs:List Int):Int:=zs.headD 0
theorem lowW_small (zs:List Int) (hw:Words zs) (ht:Top zs) (h:leN zs<18446744073709551616):lowW zs=leN zs:=by
 match zs,hw,ht,h with
 |[],_,_,_=>rfl
 |[x],_,_,_=>simp[lowW,leN]
 |x::y::r,hw,ht,h=>
  have h4:=leN_top (x::y::r) hw ht (by simp)
  have h5:=wpow_ge ((x::y::r).length-1) (by simp)
  omega
theorem low64_sl (B:Nat) (v:Value) (zs:List Int) (w:World) (h:Sl .u64 B w v zs) (hw:Words zs):
 Calls Tryz.prog 183 #[v] w fun e w'=>e= .returned (.int .u64 (lowW zs))∧w'=w:=by
 obtain⟨A,c,rfl,h1,h2,h3⟩:=h
 match zs,hw,h1,h2,h3 with
 |[],_,_,_,_=>exact low64_nil c A w
 |x::r,hw,h1,h2,h3=>
  obtain⟨b,o,rfl,hB,hlt,hc⟩:=h3 (by simp)
  have:=hw x (List.mem_cons_self)
  exact low64_c b o (x::r).length c x w (by simp) (by have:=hc 0 (by simp);simpa using this) this.1 this.2
def i64Of (neg:Bool) (x:Int):Int:=if neg then wrap64 (-(wrap64 x)) else wrap64 x
set_option maxRecDepth 100000 in
theorem intInt64_c (g:Nat) (neg:Bool) (v:Value) (zs:List Int) (w:World) (h:BI w g neg v zs):
 Calls Tryz.prog 154 #[.pointer (some ⟨g,0,none⟩)] w fun e w'=>e= .returned (.int .i64 (i64Of neg (lowW zs)))∧w'=w:=by
 have c1:=h.c1
 have c0:=h.c0
 have HC:=Lib.hid (low64_sl _ v zs w h.sl h.words)
 obtain⟨A,c,rfl,_⟩:=h.sl.c
 clear h
 cases neg
 all_goals
  go_enter Tryz.func154,Tryz.ntmps154
  go_wp2_with (go_at_call 183;refine HC.out.mono ?_;rintro e w1 ⟨rfl,rfl⟩)
  go_ret
  exact⟨rfl,rfl⟩
def bval (neg:Bool) (zs:List Int):Int:=if neg then-leN zs else leN zs
def sml (x:Int):Bool:=decide (-2147483648≤x∧x≤2147483647)
theorem i64Of_bval (neg:Bool) (zs:List Int) (hw:Words zs) (ht:Top zs) (h:leN zs<4294967296):i64Of neg (lowW zs)=bval neg zs:=by
 have h0:=(leN_bd zs hw).1
 rw[lowW_small zs hw ht (by omega)]
 unfold i64Of bval wrap64
 cases neg<;>simp<;>omega
set_option maxRecDepth 100000 in
theorem isSmall_c (g:Nat) (neg:Bool) (v:Value) (zs:List Int) (w:World) (h:BI w g neg v zs) (hlen:zs.length≤4398046511104):
 Calls Tryz.prog 152 #[.pointer (some ⟨g,0,none⟩)] w fun e w'=>e= .returned (.bool (sml (bval neg zs)))∧w'=w:=by
 have h0:=(leN_bd zs h.words).1
 have HB:=Lib.hid (intBitLen_c g neg v zs w h hlen)
 have HI:=Lib.hid (intInt64_c g neg v zs w h)
 have HV:=Lib.hid (i64Of_bval neg zs h.words h.top)
 clear h
 obtain⟨y,hy⟩: ∃y,i64Of neg (lowW zs)=y:=⟨_,rfl⟩
 rw[hy] at HI HV
 clear hy
 have e1:leN zs<2147483648→sml (bval neg zs)=true:=fun h=>by unfold sml bval;cases neg<;>simp<;>omega
 have e2:4294967296≤leN zs→sml (bval neg zs)=false:=fun h=>by unfold sml bval;cases neg<;>simp<;>omega
 have e3:2147483648≤leN zs→leN zs<4294967296→sml (bval neg zs)=(y== -2147483648):=fun h h2=>by
  rw[HV.out h2]
  unfold sml bval
  cases neg
  ·have h3:(leN zs== -2147483648)=false:=by simp;omega
   simp[h3];omega
  ·simp
   by_cases e:leN zs=2147483648
   ·simp[e]
   ·have: ¬leN zs≤2147483648:=by omega
    have h3:(-leN zs== -2147483648)=false:=by simp;omega
    simp[h3];omega
 have E1:=Lib.hid e1
 have E2:=Lib.hid e2
 have E3:=Lib.hid e3
 clear e1 e2 e3 h0
 by_cases c1:leN zs<2147483648
 ·go_enter Tryz.func152,Tryz.ntmps152
  go_wp2_with (go_at_call 182;refine HB.out.mono ?_;rintro e w1 ⟨n,rfl,hn,rfl⟩;have hn1:(n:Int)<32:=by have:=hn.small.2 c1;omega)
  go_ret
  exact⟨by rw[E1.out c1];rfl,rfl⟩
 ·by_cases c2:leN zs<4294967296
  ·go_enter Tryz.func152,Tryz.ntmps152
   go_wp2_with (first|(go_at_call 182;refine HB.out.mono ?_;rintro e w1 ⟨n,rfl,hn,rfl⟩;obtain rfl:n=32:=hn.just.2 ⟨by omega,c2⟩)|(go_at_call 154;refine HI.out.mono ?_;rintro e w1 ⟨rfl,rfl⟩))
   go_ret
   exact⟨by rw[E3.out (by omega) c2];rfl,rfl⟩
  ·go_enter Tryz.func152,Tryz.ntmps152
   go_wp2_with (go_at_call 182;refine HB.out.mono ?_;rintro e w1 ⟨n,rfl,hn,rfl⟩;have hn1: ¬(n:Int)<32:=(by have:=hn.small.1;omega);have hn2:((n:Int)==32)=false:=(by have:=hn.just.1;simp;omega))
   go_ret
   exact⟨(by rw[E2.out (by omega)];show Ending.returned (.bool (decide ((n:Int)<32)))=_;rw[decide_eq_false (by omega)]),rfl⟩
set_option maxRecDepth 100000 in
theorem makeSmall_c (x:Int) (w:World):
 Calls Tryz.prog 153 #[.int .i64 x] w fun e w'=>e= .returned (.agg #[.int .i64 x, .pointer none])∧Below w.heap.size w w':=by
 go_enter Tryz.func153,Tryz.ntmps153
 go_wp2
 refine bodyPost_ret (v:= .agg #[.int .i64 x, .pointer none]) (by simp[results,Tryz.results153,go_sem]) rfl ⟨rfl,?_⟩
 exact(Below.refl _ w).alloc (Nat.le_refl _) _
set_option maxRecDepth 100000 in
theorem makeBig_c (a:Addr) (w:World):
 Calls Tryz.prog 155 #[.pointer (some a)] w fun e w'=>e= .returned (.agg #[.int .i64 0, .pointer (some a)])∧Below w.heap.size w w':=by
 go_enter Tryz.func155,Tryz.ntmps155
 go_wp2
 refine bodyPost_ret (v:= .agg #[.int .i64 0, .pointer (some a)]) (by simp[results,Tryz.results155,go_sem]) rfl ⟨rfl,?_⟩
 exact(Below.refl _ w).alloc (Nat.le_refl _) _
theorem irow_setCells {k:IntKind} {w:World} {b:Nat} {l0 l:List Int} (h:IRow k w b l0) (hl:l0.length=l.length):IRow k (w.setCells b 0 (l.map (Value.int k))) b l:=by
 refine⟨fun j hj=>?_,fun j hj=>?_⟩
 ·have:=World.cell?_setCells_in b (l.map (Value.int k)) 0 w (fun j hj=>by
  have hj':j<l0.length:=by simpa [hl] using hj
  rw[Nat.zero_add,h.1 j hj'];rfl) j (by simpa using hj)
  simpa using this
 ·rw[World.frozen?_setCells]
  exact h.2 j (by omega)
theorem size_setCells (b:Nat): ∀(vs:List Value) (o:Nat) (w:World),(w.setCells b o vs).heap.size=w.heap.size:=by
 intro vs
 induction vs with
 |nil=>intro o w;rfl
 |cons v r ih=>intro o w;simp only[World.setCells];rw[ih];simp[World.setCell]
theorem addr_add (b o j:Nat):(⟨b,o,none⟩:Addr).add j=⟨b,o+j,none⟩:=by
 unfold Addr.add
 split
 ·simp_all
 ·rfl
theorem wordSize:(Tryz.prog.info? 265).map (·.size)=some 1:=by
 obtain⟨i,hi,hzz⟩:=Option.map_eq_some_iff.1 wordInfo
 simp only[Prod.mk.injEq] at hzz
 rw[hi];simp[hzz.2.1]
theorem copy_fresh (w:World) (g b o c c1:Nat) (zs l0:List Int) (h0:l0.length=zs.length) (hr:IRow .u64 w g l0) (hc: ∀j (h:j<zs.length),w.cell? ⟨b,o+j,none⟩=some (.int .u64 zs[j])):
 ∃w2,(∀ty:TypeId,(Builtin.copy_ #[194,194] ty #[.slice (some ⟨g,0,none⟩) zs.length c1, .slice (some ⟨b,o,none⟩) zs.length c]).run Tryz.prog w= .ok (.int .i64 zs.length) w2)∧
  IRow .u64 w2 g zs∧(∀B W,B≤g→Below B W w→Below B W w2)∧w2.heap.size=w.heap.size:=by
 obtain⟨i,hi,hzz⟩:=Option.map_eq_some_iff.1 wordInfo
 simp only[Prod.mk.injEq] at hzz
 have hs1:(Tryz.prog.info? 265).map (·.size)=some 1:=by rw[hi];simp[hzz.2.1]
 refine⟨w.setCells g 0 (zs.map (Value.int .u64)),fun ty=>?_,irow_setCells hr h0,fun B W hB hb=>below_setCells hB _ _ _ hb,size_setCells _ _ _ _⟩
 have:=run_copy_cells (P:=Tryz.prog) w 194 194 ty 265 g 0 zs.length c1 ⟨b,o,none⟩ zs.length c (zs.map (Value.int .u64)) Tryz.underlying194 hs1 (by simp) ?_ ?_ ?_ ?_
 ·simpa [goInt] using this
 ·intro j v hv
  obtain⟨hj,rfl⟩:=List.getElem?_eq_some_iff.1 hv
  have hj':j<zs.length:=by simpa using hj
  rw[List.getElem_map,addr_add,hc j hj']
 ·intro j hj
  have hj':j<zs.length:=by simpa using hj
  rw[Nat.zero_add,hr.1 j (by omega)];rfl
 ·intro j hj
  rw[Nat.zero_add];exact hr.2 j (by have:j<zs.length:=by simpa using hj
                                    omega)
 ·intro v hv
  obtain⟨x,_,rfl⟩:=List.mem_map.1 hv;rfl
set_option maxRecDepth 100000 in
theorem natSet_c (B:Nat) (v:Value) (zs:List Int) (w:World) (h:Sl .u64 B w v zs) (hlen:zs.length≤4398046511104):
 Calls Tryz.prog 160 #[.slice none 0 0,v] w fun e w'=> ∃u,e= .returned u∧Sl .u64 w.heap.size w' u zs∧Below w.heap.size w w':=by
 by_cases hne:zs=[]
 ·have hs1:=wordSize
  subst hne
  obtain⟨A,c,rfl,h1,h2,h3⟩:=h
  have hcp:=fun(w:World) (ty:TypeId)=>run_copy_none (P:=Tryz.prog) w 194 194 ty 265 none A 0 0 0 c Tryz.underlying194 hs1 rfl
  go_enter Tryz.func160,Tryz.ntmps160
  go_wp2_with (go_at_call 161;refine(make_nil0 _).mono ?_;rintro e w1 ⟨rfl,rfl⟩)
  go_ret
  exact⟨_,rfl,Sl.nil,Below.refl _ _⟩
 ·have hpos:0<zs.length:=List.length_pos_iff.2 hne
  obtain⟨A,c,rfl,h1,h2,h3⟩:=h
  obtain⟨b,o,rfl,hB,hlt,hc⟩:=h3 hne
  have HC:=Lib.hid hc
  clear hc h3 h2
  go_enter Tryz.func160,Tryz.ntmps160
  go_wp2_with (go_at_call 161;refine(make_nil zs.length _ hpos hlen).mono ?_;rintro e w1 ⟨c1,rfl,hc1,hc2,hr1,hb1,hsz1⟩;obtain⟨w2,hcp,hr2,hb2,hz2⟩:=copy_fresh w1 w.heap.size b o c c1 zs _ (by simp) hr1 (fun j hj=>(hb1.cell (p:=⟨b,o+j,none⟩) hlt).trans (HC.out j hj));have HR:=Lib.hid hr2;have HB:=Lib.hid (hb2 _ _ (Nat.le_refl _) hb1);have HZ:=Lib.hid (And.intro hsz1 hz2);clear hr1 hb1 hr2 hb2 hsz1 hz2)
  go_ret
  exact⟨_,rfl,HR.out.sl' (by have:=HZ.out;omega) hc1 (by omega),HB.out⟩
theorem run_neq_ptr_other {P:Program} (w:World) {tp te:TypeId} {j:TypeInfo} {a b:Addr} {ca cb:Array Value} {ta tb:TypeId} (hp:P.underlying tp=some (.pointer te)) (hte:P.info? te=some j) (hsz:j.size≠0)
 (hne:a≠b) (ha:w.heap[a.block]?=some (.cells ca ta (0,0))) (hb:w.heap[b.block]?=some (.cells cb tb (0,0))):
 (binOp .neq tp (.pointer (some a)) (.pointer (some b))).run P w= .ok (.bool true) w:=by
 have h: ∀d:Nat,(Op.equalIn (d+1) tp (.pointer (some a)) (.pointer (some b))).run P w= .ok false w:=fun d=>by
  simp[Op.equalIn,run_underlying hp,sizeOf,typeInfo,hte,hsz,run_sameAddr_other w hne ha hb]
 simp only[binOp]
 simp[Op.equal,Op.maxDepth,h 9999]
theorem ptr_other (w:World) (g g2:Nat) (h:g≠g2) {ca cb:Array Value} {ta tb:TypeId} (ha:w.heap[g]?=some (.cells ca ta (0,0))) (hb:w.heap[g2]?=some (.cells cb tb (0,0))):(binOp .neq 118 (.pointer (some ⟨g,0,none⟩)) (.pointer (some ⟨g2,0,none⟩))).run Tryz.prog w= .ok (.bool true) w:=by
 obtain⟨i,hi,hs⟩:=Option.map_eq_some_iff.1 intInfo
 exact run_neq_ptr_other w Tryz.underlying118 hi (by rw[hs];decide) (by intro e;injection e with e;exact h e) ha hb
set_option maxRecDepth 100000 in
theorem intSet_c (g g2:Nat) (neg n0:Bool) (v:Value) (zs:List Int) (w:World) (h:BI w g neg v zs) (hne:g2≠g) (hlen:zs.length≤4398046511104)
 (hk:w.heap[g2]?=some (.cells #[.bool n0, .slice none 0 0] 196 (0,0))):
 Calls Tryz.prog 132 #[.pointer (some ⟨g2,0,none⟩), .pointer (some ⟨g,0,none⟩)] w fun e w'=>e= .returned (.pointer (some ⟨g2,0,none⟩))∧(∃u,BI w' g2 neg u zs)∧Below g2 w w':=by
 have hpe:=ptr_other w g2 g hne hk h.blk
 have d0:=blk_cell hk 0 _ rfl
 have d1:=blk_cell hk 1 _ rfl
 have g0:=blk_free hk 0
 have g1:=blk_free hk 1
 have hlt2:g2<w.heap.size:=lt_of_cell d0
 have HK:=Lib.hid hk
 clear hk
 have c0:=h.c0
 have c1:=h.c1
 have hlt:=h.lt
 have HC:=Lib.hid (fun w' (hb:Below w.heap.size w w')=>natSet_c _ v zs w' (h.sl.below hb) hlen)
 have HW:=Lib.hid (And.intro h.words h.top)
 obtain⟨A,c,rfl,_⟩:=h.sl.c
 clear h
 have HB0:Hid (Below w.heap.size w w):=Below.refl _ _
 go_enter Tryz.func132,Tryz.ntmps132
 go_wp2
 go_region_with (go_at_call 160;refine(HC.out _ (by first|exact HB0.out|exact HB0.out.drew)).mono ?_;rintro e w1 ⟨u,rfl,hs1,hb1⟩;obtain⟨A1,k1,rfl,_⟩:=hs1.c;have HS1:=Lib.hid hs1;replace HB0:Hid (Below w.heap.size w w1):=(by first|exact HB0.out.trans hb1|exact HB0.out.drew.trans hb1);clear hs1 hb1;have q0:=(HB0.out.cell (p:=⟨g2,0,none⟩) hlt2).trans d0;have q1:=(HB0.out.cell (p:=⟨g2,1,none⟩) hlt2).trans d1;have r0:=(HB0.out.frozen (p:=⟨g2,0,none⟩) hlt2).trans g0;have r1:=(HB0.out.frozen (p:=⟨g2,1,none⟩) hlt2).trans g1;have p0:=(HB0.out.cell (p:=⟨g,0,none⟩) hlt).trans c0;have p1:=(HB0.out.cell (p:=⟨g,1,none⟩) hlt).trans c1)
 all_goals go_wp2
 all_goals go_ret
 all_goals exact⟨rfl,⟨_,bi_set2 (blk_below HK.out HB0.out) (HS1.out.mono (by first|exact hlt2|(simp;exact hlt2))) HW.out.1 HW.out.2⟩,((HB0.out.mono (Nat.le_of_lt hlt2)).setCell (Nat.le_refl _) _).setCell (Nat.le_refl _) _⟩
def SIv (B:Nat) (w:World) (v:Value) (x:Int):Prop:=
 (sml x=true∧v= .agg #[.int .i64 x, .pointer none])∨
 (sml x=false∧ ∃g neg u zs,v= .agg #[.int .i64 0, .pointer (some ⟨g,0,none⟩)]∧B≤g∧BI w g neg u zs∧bval neg zs=x∧zs.length≤4398046511104)
section
variable {B B':Nat} {w w':World} {v:Value} {x:Int}
theorem SIv.mono (h:SIv B w v x) (hB:B'≤B):SIv B' w v x:=by
 rcases h with h|⟨h,g,neg,u,zs,e,hg,hb,r⟩
 ·exact Or.inl h
 ·exact Or.inr ⟨h,g,neg,u,zs,e,Nat.le_trans hB hg,hb,r⟩
theorem SIv.below (h:SIv B w v x) (hb:Below w.heap.size w w'):SIv B w' v x:=by
 rcases h with h|⟨h,g,neg,u,zs,e,hg,hi,r⟩
 ·exact Or.inl h
 ·exact Or.inr ⟨h,g,neg,u,zs,e,hg,hi.below hb,r⟩
theorem BI.setOther {g:Nat} {neg:Bool} {u:Value} {zs:List Int} (h:BI w g neg u zs) {p:Addr} (y:Value) (hp:p.block<g):BI (w.setCell p y) g neg u zs:=
 ⟨blk_far h.blk (by omega) y,h.sl.setCell y (by omega),h.words,h.top⟩
theorem SIv.setCell (h:SIv B w v x) {p:Addr} (y:Value) (hp:p.block<B):SIv B (w.setCell p y) v x:=by
 rcases h with h|⟨h,g,neg,u,zs,e,hg,hi,r⟩
 ·exact Or.inl h
 ·exact Or.inr ⟨h,g,neg,u,zs,e,hg,hi.setOther y (by omega),r⟩
theorem SIv.shape (h:SIv B w v x): ∃y p,v= .agg #[.int .i64 y, .pointer p]:=by
 rcases h with⟨_,rfl⟩|⟨_,g,neg,u,zs,rfl,_⟩<;>exact⟨_,_,rfl⟩
end
theorem sml_low (neg:Bool) (zs:List Int) (hw:Words zs) (h:sml (bval neg zs)=true):leN zs<4294967296:=by
 have h0:=(leN_bd zs hw).1
 unfold sml bval at h
 cases neg<;>simp at h<;>omega
set_option maxRecDepth 100000 in
theorem makeBigInt_c (g:Nat) (neg:Bool) (v:Value) (zs:List Int) (w:World) (h:BI w g neg v zs) (hlen:zs.length≤4398046511104):
 Calls Tryz.prog 130 #[.pointer (some ⟨g,0,none⟩)] w fun e w'=> ∃u,e= .returned u∧SIv w.heap.size w' u (bval neg zs)∧Below w.heap.size w w':=by
 have H:=Lib.hid h
 have hlt:=h.lt
 have HS:=Lib.hid (fun w' (hb:Below w.heap.size w w')=>isSmall_c g neg v zs w' (h.below hb) hlen)
 obtain⟨x,hx⟩: ∃x,bval neg zs=x:=⟨_,rfl⟩
 have HX:=Lib.hid hx
 rw[hx] at HS⊢
 cases hs:sml x
 ·have HQ:=Lib.hid hs
  rw[hs] at HS
  clear hx hs h
  have HSet:=Lib.hid (fun w' v0 (hb:Below w.heap.size w w') g2 (h2:g2≠g) hk=>intSet_c g g2 neg v0 v zs w' (H.out.below hb) h2 hlen hk)
  have hne:w.heap.size+1≠g:=by omega
  go_enter Tryz.func130,Tryz.ntmps130
  go_wp2_with (first|(go_at_call 152;refine(HS.out _ ((Below.refl _ _).alloc (Nat.le_refl _) _)).mono ?_;rintro e w1 ⟨rfl,rfl⟩)|(go_at_call 132;refine(HSet.out _ false (((Below.refl _ _).alloc (Nat.le_refl _) _).alloc (by simp) _) _ hne (by simpa using blk_new (w.alloc _) _)).mono ?_;rintro e w1 ⟨rfl,⟨u1,hi1⟩,hb1⟩;have HI:=Lib.hid hi1;have HB:=Lib.hid hb1;have q0:=(HB.out.cell (p:=⟨w.heap.size,0,none⟩) (by simp)).trans (show World.cell? _ _=some (.int .i64 0) from by go_simp);have q1:=(HB.out.cell (p:=⟨w.heap.size,1,none⟩) (by simp)).trans (show World.cell? _ _=some (.pointer none) from by go_simp);have f0:=(HB.out.frozen (p:=⟨w.heap.size,0,none⟩) (by simp)).trans (show World.frozen? _ _=false from by go_simp);have f1:=(HB.out.frozen (p:=⟨w.heap.size,1,none⟩) (by simp)).trans (show World.frozen? _ _=false from by go_simp);clear hi1 hb1)|(go_at_call 155;refine(makeBig_c _ _).mono ?_;rintro e w2 ⟨rfl,hb2⟩;have HB2:=Lib.hid hb2;have hlt2:=HI.out.lt;have q0':=(HB2.out.cell (p:=⟨w.heap.size,0,none⟩) (by show w.heap.size<_;omega)).trans q0;have q1':=(HB2.out.cell (p:=⟨w.heap.size,1,none⟩) (by show w.heap.size<_;omega)).trans q1;have f0':=(HB2.out.frozen (p:=⟨w.heap.size,0,none⟩) (by show w.heap.size<_;omega)).trans f0;have f1':=(HB2.out.frozen (p:=⟨w.heap.size,1,none⟩) (by show w.heap.size<_;omega)).trans f1;clear hb2))
  refine bodyPost_ret (v:= .agg #[.int .i64 0, .pointer (some ⟨w.heap.size+1,0,none⟩)]) (by simp[results,Tryz.results130,go_sem,q0',q1']) rfl ⟨_,rfl,Or.inr ⟨HQ.out,w.heap.size+1,neg,u1,zs,rfl,by omega,((HI.out.below HB2.out).setOther _ (by simp)).setOther _ (by simp),HX.out,hlen⟩,?_⟩
  have hsz:=HB.out.size
  have hsz2:=HB2.out.size
  simp at hsz
  exact(((((Below.refl _ _).alloc (Nat.le_refl _) _).alloc (by simp) _).trans (HB.out.mono (by simp))).trans (HB2.out.mono (by omega))).setCell (Nat.le_refl _) _|>.setCell (Nat.le_refl _) _
 ·have HQ:=Lib.hid hs
  rw[hs] at HS
  have HV:=Lib.hid (i64Of_bval neg zs h.words h.top (sml_low neg zs h.words (by rw[hx];exact hs)))
  clear hx hs h
  have H64:=Lib.hid (fun w' (hb:Below w.heap.size w w')=>intInt64_c g neg v zs w' (H.out.below hb))
  rw[HV.out,HX.out] at H64
  go_enter Tryz.func130,Tryz.ntmps130
  go_wp2_with (first|(go_at_call 152;refine(HS.out _ ((Below.refl _ _).alloc (Nat.le_refl _) _)).mono ?_;rintro e w1 ⟨rfl,rfl⟩)|(go_at_call 154;refine(H64.out _ ((Below.refl _ _).alloc (Nat.le_refl _) _)).mono ?_;rintro e w1 ⟨rfl,rfl⟩)|(go_at_call 153;refine(makeSmall_c _ _).mono ?_;rintro e w2 ⟨rfl,hb2⟩;have HB2:=Lib.hid hb2;obtain⟨hc2,hf2⟩:=bcell hb2;clear hb2))
  refine bodyPost_ret (v:= .agg #[.int .i64 x, .pointer none]) (by simp[results,Tryz.results130,go_sem,hc2]) rfl ⟨_,rfl,Or.inl ⟨HQ.out,rfl⟩,?_⟩
  have hsz:=HB2.out.size
  simp at hsz
  exact((((Below.refl _ _).alloc (Nat.le_refl _) _).trans (HB2.out.mono (by simp))).setCell (Nat.le_refl _) _).setCell (Nat.le_refl _) _
#print axioms makeBigInt_c
theorem lt_blk {w:World} {g:Nat} {o:Obj} (h:w.heap[g]?=some o):g<w.heap.size:=by
 rcases Nat.lt_or_ge g w.heap.size with h1|h1
 ·exact h1
 ·rw[Array.getElem?_eq_none h1] at h;cases h
theorem blk_keep {w w':World} {B g:Nat} {o:Obj} (h:w.heap[g]?=some o) (hb:Below B w w') (hg:g<B):w'.heap[g]?=some o:=(hb.block g hg).trans h
theorem pow8_words (n:Nat):(256:Int)^n≤18446744073709551616^n:=by
 have h:(18446744073709551616:Int)=256^8:=by decide
 rw[h,←Int.pow_mul]
 exact pow_le_pow _ _ (by omega)
theorem words_le (l zs:List Int) (hl:Bytes l) (hw:Words zs) (ht:Top zs) (h:leN zs=beN l):zs.length≤l.length:=by
 rcases Nat.lt_or_ge l.length zs.length with hlt|hge
 ·have hne:zs≠[]:=by rintro rfl;simp at hlt
  have h1:=leN_top zs hw ht hne
  have h2:=(beN_bd l hl).2
  have h3:=pow8_words l.length
  have h4:(18446744073709551616:Int)^l.length≤18446744073709551616^(zs.length-1):=by
   obtain⟨c,hc⟩: ∃c,zs.length-1=l.length+c:=⟨zs.length-1-l.length,by omega⟩
   rw[hc,Int.pow_add]
   have:=wpos l.length
   have h5:=wpos c
   have:(18446744073709551616:Int)^l.length*1≤18446744073709551616^l.length*18446744073709551616^c:=Int.mul_le_mul_of_nonneg_left (by omega) (by omega)
   omega
  omega
 ·exact hge
theorem two_cells {w:World} {g:Nat} {a b:Value} {t:TypeId} (h:w.heap[g]?=some (.cells #[a,b] t (0,0))):
 w.cell? ⟨g,0,none⟩=some a∧w.cell? ⟨g,1,none⟩=some b∧w.frozen? ⟨g,0,none⟩=false∧w.frozen? ⟨g,1,none⟩=false:=
 ⟨_root_.Go.Proofs.YtkplnbjgkhmbcaaGreatDoor.blk_cell h 0 _ rfl,_root_.Go.Proofs.YtkplnbjgkhmbcaaGreatDoor.blk_cell h 1 _ rfl,blk_free h 0,blk_free h 1⟩
theorem bval_neg (zs l:List Int) (h:leN zs=beN l):bval (decide (0<zs.length)&&true) zs=val true l:=by
 unfold bval val
 by_cases hz:0<zs.length
 ·simp[hz,h]
 ·have:zs=[]:=List.eq_nil_of_length_eq_zero (by omega)
  subst this
  rw[←h];simp[leN]
theorem bval_pos (zs l:List Int) (h:leN zs=beN l):bval false zs=val false l:=by
 unfold bval val;simp[h]
set_option maxRecDepth 100000 in
theorem iwhole_c (B:Nat) (k bits:Int) (n:Bool) (txt:ByteArray) (v2:Value) (A5:Option Addr) (n5 c5:Nat) (l:List Int) (w:World) (h:Sl .u8 B w v2 l) (hl:Bytes l) (hlen:l.length≤2147483647):
 Calls Tryz.prog 91 #[.agg #[.int .i64 k, .bool n,v2, .int .u64 bits, .string txt, .slice A5 n5 c5]] w fun e w'=> ∃u,e= .returned u∧SIv w.heap.size w' u (val n l)∧Below w.heap.size w w':=by
 have HS:=Lib.hid (fun w' g (hb:Below w.heap.size w w') hk=>intSetBytes_c g B false v2 l w' (h.below hb) hl hlen hk)
 have HW:=Lib.hid (fun zs hw ht he=>words_le l zs hl hw ht he)
 obtain⟨A2,c2,rfl,_⟩:=h.c
 clear h hl
 have HB0:Hid (Below w.heap.size w (((w.alloc (.cells #[.int .i64 k, .bool n, .slice A2 l.length c2, .int .u64 bits, .string txt, .slice A5 n5 c5] 26)).alloc (.cells #[.int .i64 0, .pointer none] 122)).alloc (.cells #[.bool false, .slice none 0 0] 196))):=
  (((Below.refl _ _).alloc (Nat.le_refl _) _).alloc (by simp) _).alloc (by simp;omega) _
 have HK1:Hid ((((w.alloc (.cells #[.int .i64 k, .bool n, .slice A2 l.length c2, .int .u64 bits, .string txt, .slice A5 n5 c5] 26)).alloc (.cells #[.int .i64 0, .pointer none] 122)).alloc (.cells #[.bool false, .slice none 0 0] 196)).heap[w.heap.size+1]?=some (.cells #[.int .i64 0, .pointer none] 122 (0,0))):=
  blk_alloc (by simpa using blk_new (w.alloc _) _) _
 cases n
 all_goals
  go_enter Tryz.func91,Tryz.ntmps91
  go_wp2_with (first|(go_at_call 128;refine(HS.out _ (w.heap.size+1+1) HB0.out (by simpa using blk_new ((w.alloc _).alloc _) _)).mono ?_;rintro e w1 ⟨rfl,⟨u1,zs,hi1,hz1⟩,hb1⟩;have HI:=Lib.hid hi1;have HZ:=Lib.hid (And.intro hz1 (HW.out zs hi1.words hi1.top hz1));have HB:=Lib.hid (HB0.out.trans (hb1.mono (by omega)));have K1:=Lib.hid (blk_keep HK1.out hb1 (by omega));have k1:=(hb1.cell (p:=⟨w.heap.size,1,none⟩) (by show w.heap.size<_;omega)).trans (show World.cell? _ _=some _ from by go_simp;rfl);clear hi1 hz1 hb1)|(go_at_call 129;refine(intNeg_c _ _ _ _ _ HI.out).mono ?_;rintro e w2 ⟨rfl,hi2,hb2⟩;replace HI:=Lib.hid hi2;replace HB:=Lib.hid (HB.out.trans (hb2.mono (by omega)));replace K1:=Lib.hid (blk_keep K1.out hb2 (by omega));clear hi2 hb2)|(go_at_call 130;refine(makeBigInt_c _ _ _ _ _ HI.out (by have:=HZ.out.2;omega)).mono ?_;rintro e w3 ⟨u,rfl,hu,hb3⟩;obtain⟨y,p,rfl⟩:=hu.shape;obtain⟨q0,q1,f0,f1⟩:=two_cells (blk_keep K1.out hb3 (lt_blk K1.out));have hl3:=HI.out.lt;have HU:=Lib.hid (hu.mono (by omega:w.heap.size+2≤_));replace HB:=Lib.hid (HB.out.trans (hb3.mono (by omega)));clear hu hb3))
  refine bodyPost_ret (v:= .agg #[.int .i64 y, .pointer p]) (by simp[results,Tryz.results91,go_sem,q0,q1]) rfl ⟨_,rfl,?_,(HB.out.setCell (p:=⟨w.heap.size+1,0,none⟩) (by show w.heap.size≤w.heap.size+1;omega) _).setCell (p:=⟨w.heap.size+1,1,none⟩) (by show w.heap.size≤w.heap.size+1;omega) _⟩
  have hU:=((HU.out.setCell (p:=⟨w.heap.size+1,0,none⟩) (.int .i64 y) (by show w.heap.size+1<_;omega)).setCell (p:=⟨w.heap.size+1,1,none⟩) (.pointer p) (by show w.heap.size+1<_;omega)).mono (Nat.le_add_right _ 2)
  first|rw[←bval_pos zs l HZ.out.1];exact hU|rw[←bval_neg zs l HZ.out.1];exact hU
theorem get_c (y:Int) (p:Option Addr) (w:World):
 Calls Tryz.prog 98 #[.agg #[.int .i64 y, .pointer p]] w fun e w'=>e= .returned (.tuple #[.int .i64 y, .pointer p])∧Below w.heap.size w w':=by
 go_enter Tryz.func98,Tryz.ntmps98
 go_wp2
 go_quiet (fail)
 go_wp2
 go_ret2
 exact⟨rfl,by apply pw_below_drewN;exact(Below.refl _ _).alloc (Nat.le_refl _) _⟩
set_option maxRecDepth 100000 in
theorem errNew_c (s:ByteArray) (w:World):
 Calls Tryz.prog 59 #[.string s] w fun e w'=> ∃a,e= .returned (.iface 187 (.pointer (some a)))∧Below w.heap.size w w':=by
 go_enter Tryz.func59,Tryz.ntmps59
 go_wp2
 go_ret
 exact⟨_,rfl,(Below.refl _ _).alloc (Nat.le_refl _) _⟩
end Go.Proofs.YtkplnbjgkhmbcaaGreatDoor
