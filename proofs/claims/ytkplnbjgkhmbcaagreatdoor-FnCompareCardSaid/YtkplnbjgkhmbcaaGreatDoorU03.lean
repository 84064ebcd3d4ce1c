/- NumMul SpecMul SpecLsh FloatV FloatW SpecWhole SpecCmpF ValV SpecCmpN -/
import Derived.Test.YtkplnbjgkhmbcaaGreatDoorU01
import Derived.IntWalk
import Derived.BigQuiet
import Derived.Deep.RegionWith
import Derived.StillTailTactics
import Derived.Laws.FloatArith
import Derived.Laws.Externs
import Derived.WalkLawsBesides
import Derived.Laws.BitsAllLaws
namespace Go.Proofs.YtkplnbjgkhmbcaaGreatDoor
def le8:List Int→Int
 |[]=>0
 |x::r=>x+256*le8 r
theorem le8_append (a b:List Int):le8 (a++b)=le8 a+256^a.length*le8 b:=by
 induction a with
 |nil=>simp[le8]
 |cons x r ih=>
  rw[List.cons_append,le8,le8,ih,List.length_cons,Int.pow_succ,Int.mul_add,Int.mul_comm (256^r.length) 256,Int.mul_assoc,Int.add_assoc]
theorem le8_reverse (l:List Int):le8 l.reverse=beN l:=by
 induction l with
 |nil=>rfl
 |cons x r ih=>
  rw[List.reverse_cons,le8_append,ih,List.length_reverse,beN_cons,le8,le8,Int.mul_comm x,Int.mul_zero,Int.add_zero]
  omega
theorem bytes_reverse {l:List Int} (h:Bytes l):Bytes l.reverse:=fun x hx=>h x (List.mem_reverse.1 hx)
theorem bytes_take {l:List Int} (h:Bytes l) (n:Nat):Bytes (l.take n):=fun x hx=>h x (List.mem_of_mem_take hx)
theorem le8_bd (l:List Int) (h:Bytes l):0≤le8 l∧le8 l<256^l.length:=by
 have:=beN_bd l.reverse (bytes_reverse h)
 rw[←le8_reverse,List.reverse_reverse,List.length_reverse] at this
 exact this
theorem le8_set: ∀(l:List Int) (k:Nat) (h:k<l.length) (v:Int),le8 (l.set k v)=le8 l+256^k*(v-l[k]):=by
 intro l
 induction l with
 |nil=>intro k h;simp at h
 |cons x r ih=>
  intro k h v
  cases k with
  |zero=>simp[le8];omega
  |succ k=>
   have h':k<r.length:=by simpa using h
   rw[List.set_cons_succ,le8,le8,ih k h' v,Int.pow_succ,Int.mul_add,Int.mul_comm (256^k) 256,Int.mul_assoc,Int.add_assoc]
   simp
theorem le8_zeros (n:Nat):le8 (List.replicate n 0)=0:=by
 induction n with
 |zero=>rfl
 |succ n ih=>rw[List.replicate_succ,le8,ih];rfl
theorem bytes_zeros (n:Nat):Bytes (List.replicate n 0):=by
 intro x hx
 rw[List.mem_replicate] at hx
 rw[hx.2];omega
theorem bytes_set {l:List Int} (h:Bytes l) (k:Nat) (v:Int) (h0:0≤v) (h1:v<256):Bytes (l.set k v):=by
 intro x hx
 rcases List.mem_or_eq_of_mem_set hx with hx|rfl
 ·exact h x hx
 ·exact⟨h0,h1⟩
def dg (l:List Int) (i:Nat):Int:=l.reverse.getD i 0
theorem dg_bd (l:List Int) (i:Nat) (h:Bytes l):0≤dg l i∧dg l i<256:=by
 unfold dg
 rw[List.getD_eq_getElem?_getD]
 rcases Nat.lt_or_ge i l.reverse.length with hi|hi
 ·rw[List.getElem?_eq_getElem hi]
  exact bytes_reverse h _ (List.getElem_mem hi)
 ·rw[List.getElem?_eq_none hi];simp
theorem dg_in (l:List Int) (i:Nat) (h:i<l.length):dg l i=l[l.length-1-i]:=by
 unfold dg
 rw[List.getD_eq_getElem?_getD,List.getElem?_eq_getElem (by simpa using h),Option.getD_some,List.getElem_reverse]
theorem dg_out (l:List Int) (i:Nat) (h: ¬i<l.length):dg l i=0:=by
 unfold dg
 rw[List.getD_eq_getElem?_getD,List.getElem?_eq_none (by simp;omega)];rfl
theorem le8_take_succ (l:List Int) (k:Nat):le8 (l.reverse.take (k+1))=le8 (l.reverse.take k)+dg l k*256^k:=by
 rcases Nat.lt_or_ge k l.reverse.length with hk|hk
 ·rw[List.take_succ_eq_append_getElem hk,le8_append,List.length_take,le8,le8]
  have:dg l k=l.reverse[k]:=by unfold dg;rw[List.getD_eq_getElem?_getD,List.getElem?_eq_getElem hk];rfl
  rw[this,show min k l.reverse.length=k from by omega,Int.mul_comm (256^k),Int.mul_zero,Int.add_zero]
 ·rw[List.take_of_length_le hk,List.take_of_length_le (by omega),dg_out l k (by simpa using hk)]
  omega
structure MulIn (a b:List Int) (i k:Nat) (D:List Int) (c:Int):Prop where
 len:D.length=a.length+b.length+1
 bytes:Bytes D
 c0:0≤c
 c1:c<256
 num:le8 D+c*256^(i+k)=le8 (a.reverse.take i)*beN b+dg a i*le8 (b.reverse.take k)*256^i
structure MulOut (a b:List Int) (i:Nat) (D:List Int):Prop where
 len:D.length=a.length+b.length+1
 bytes:Bytes D
 num:le8 D=le8 (a.reverse.take i)*beN b
theorem mul_start (a b:List Int):MulOut a b 0 (List.replicate (a.length+b.length+1) 0):=
 ⟨by simp,bytes_zeros _,by rw[le8_zeros];simp[le8]⟩
theorem mul_inner {a b:List Int} {i:Nat} {D:List Int} (h:MulOut a b i D):MulIn a b i 0 D 0:=
 ⟨h.len,h.bytes,by omega,by omega,by rw[h.num];simp[le8]⟩
theorem p256 (n:Nat):(0:Int)<256^n:=Int.pow_pos (by omega)
theorem mul_index {a b:List Int} {i k:Nat} {D:List Int} {c:Int} (h:MulIn a b i k D c) (ha:Bytes a) (hb:Bytes b) (hi:i<a.length) (hk:k<b.length∨0<c):i+k<D.length:=by
 rw[h.len]
 rcases hk with hk|hk
 ·omega
 ·have hX:=le8_bd (a.reverse.take (i+1)) (bytes_take (bytes_reverse ha) _)
  have hlen:(a.reverse.take (i+1)).length=i+1:=by rw[List.length_take,List.length_reverse];omega
  rw[hlen,le8_take_succ] at hX
  have hY:=le8_bd (b.reverse.take k) (bytes_take (bytes_reverse hb) _)
  have hB:=beN_bd b hb
  have hD:=(le8_bd D h.bytes).1
  have hd:=dg_bd a i ha
  have hYB:le8 (b.reverse.take k)≤beN b:=by
   rw[←le8_reverse b]
   conv=>rhs;rw[←List.take_append_drop k b.reverse,le8_append]
   have h2:=(le8_bd (b.reverse.drop k) (fun x hx=>bytes_reverse hb x (List.mem_of_mem_drop hx))).1
   have:=Int.mul_nonneg (Int.le_of_lt (p256 (b.reverse.take k).length)) h2
   omega
  have e1:le8 (a.reverse.take i)*beN b+dg a i*le8 (b.reverse.take k)*256^i≤(le8 (a.reverse.take i)+dg a i*256^i)*beN b:=by
   have h3:dg a i*le8 (b.reverse.take k)*256^i≤dg a i*beN b*256^i:=Int.mul_le_mul_of_nonneg_right (Int.mul_le_mul_of_nonneg_left hYB hd.1) (Int.le_of_lt (p256 i))
   rw[Int.add_mul,Int.mul_right_comm (dg a i) (256^i)]
   omega
  have e2:(le8 (a.reverse.take i)+dg a i*256^i)*beN b<256^(i+1+b.length):=by
   have h4:(le8 (a.reverse.take i)+dg a i*256^i)*beN b≤(256^(i+1)-1)*beN b:=Int.mul_le_mul_of_nonneg_right (by omega) hB.1
   have h5:(256^(i+1)-1)*beN b≤(256^(i+1)-1)*(256^b.length-1):=Int.mul_le_mul_of_nonneg_left (by omega) (by have:=p256 (i+1);omega)
   have h6:=p256 (i+1)
   have h7:=p256 b.length
   rw[Int.pow_add 256 (i+1) b.length]
   have h8:((256:Int)^(i+1)-1)*(256^b.length-1)=256^(i+1)*256^b.length-256^(i+1)-(256^b.length-1):=by
    rw[Int.sub_mul,Int.mul_sub,Int.one_mul,Int.mul_one]
   omega
  have e3:(256:Int)^(i+k)≤c*256^(i+k):=by
   have:=Int.mul_le_mul_of_nonneg_right (show(1:Int)≤c from hk) (Int.le_of_lt (p256 (i+k)))
   omega
  have e4:(256:Int)^(i+k)<256^(i+1+b.length):=by have:=h.num;omega
  rcases Nat.lt_or_ge (i+k) (i+1+b.length) with h9|h9
  ·omega
  ·have:=pow_le_pow _ _ h9
   omega
theorem mul_step {a b:List Int} {i k:Nat} {D:List Int} {c:Int} (h:MulIn a b i k D c) (ha:Bytes a) (hb:Bytes b) (hik:i+k<D.length):
 0≤D[i+k]+dg a i*dg b k+c∧D[i+k]+dg a i*dg b k+c<65536∧MulIn a b i (k+1) (D.set (i+k) ((D[i+k]+dg a i*dg b k+c)%256)) ((D[i+k]+dg a i*dg b k+c)/256):=by
 obtain⟨a0,a1⟩:=dg_bd a i ha
 obtain⟨b0,b1⟩:=dg_bd b k hb
 obtain⟨d0,d1⟩:=h.bytes _ (List.getElem_mem hik)
 have hc0:=h.c0
 have hc1:=h.c1
 have p0:0≤dg a i*dg b k:=Int.mul_nonneg a0 b0
 have p1:dg a i*dg b k≤255*255:=Int.le_trans (Int.mul_le_mul_of_nonneg_right (by omega:dg a i≤255) b0) (Int.mul_le_mul_of_nonneg_left (by omega) (by omega))
 have hnum:=h.num
 obtain⟨p,hp⟩: ∃p,dg a i*dg b k=p:=⟨_,rfl⟩
 obtain⟨d,hd⟩: ∃d,D[i+k]=d:=⟨_,rfl⟩
 refine⟨by omega,by omega,by rw[List.length_set];exact h.len,bytes_set h.bytes _ _ (by omega) (by omega),by omega,by omega,?_⟩
 rw[le8_set D (i+k) hik,le8_take_succ,←Nat.add_assoc,Int.pow_succ,Int.mul_add,Int.add_mul,←Int.mul_assoc (dg a i) (dg b k),hp,hd]
 rw[hp,hd] at*
 obtain⟨s,hs⟩: ∃s,d+p+c=s:=⟨_,rfl⟩
 rw[hs]
 have e1:(256:Int)^(i+k)*(s%256-d)+s/256*(256^(i+k)*256)=256^(i+k)*(s-d):=by
  rw[Int.mul_comm (256^(i+k)) 256,←Int.mul_assoc,Int.mul_comm (s/256*256),←Int.mul_add]
  congr 1
  omega
 have e2:p*256^k*256^i=256^(i+k)*p:=by
  rw[Int.mul_assoc,←Int.pow_add,Nat.add_comm k i,Int.mul_comm]
 have e3:(256:Int)^(i+k)*(s-d)=256^(i+k)*p+c*256^(i+k):=by
  rw[Int.mul_comm c,←Int.mul_add]
  congr 1
  omega
 omega
theorem mul_done {a b:List Int} {i k:Nat} {D:List Int} (h:MulIn a b i k D 0) (hk:b.length≤k):MulOut a b (i+1) D:=by
 refine⟨h.len,h.bytes,?_⟩
 have:=h.num
 rw[List.take_of_length_le (l:=b.reverse) (by simpa using hk),le8_reverse] at this
 rw[le8_take_succ,Int.add_mul,Int.mul_right_comm (dg a i) (256^i)]
 omega
theorem mul_end {a b:List Int} {D:List Int} (h:MulOut a b a.length D) (ha:Bytes a) (hb:Bytes b):beN (D.take (a.length+b.length)).reverse=beN a*beN b∧Bytes (D.take (a.length+b.length)).reverse∧(D.take (a.length+b.length)).reverse.length=a.length+b.length:=by
 have hl:=h.len
 have hn:=h.num
 rw[List.take_of_length_le (by simp),le8_reverse] at hn
 have hA:=beN_bd a ha
 have hB:=beN_bd b hb
 have hlt:beN a*beN b<256^(a.length+b.length):=by
  rw[Int.pow_add]
  have h1:beN a*beN b≤beN a*256^b.length:=Int.mul_le_mul_of_nonneg_left (by omega) hA.1
  have h2:beN a*256^b.length<256^a.length*256^b.length:=Int.mul_lt_mul_of_pos_right hA.2 (p256 _)
  omega
 have hlen:(D.take (a.length+b.length)).length=a.length+b.length:=by rw[List.length_take];omega
 have e:le8 D=le8 (D.take (a.length+b.length))+256^(a.length+b.length)*le8 (D.drop (a.length+b.length)):=by
  conv=>lhs;rw[←List.take_append_drop (a.length+b.length) D,le8_append,hlen]
 have hd:=(le8_bd (D.drop (a.length+b.length)) (fun x hx=>h.bytes x (List.mem_of_mem_drop hx))).1
 have ht:=(le8_bd (D.take (a.length+b.length)) (bytes_take h.bytes _)).1
 have hz:le8 (D.drop (a.length+b.length))=0:=by
  rcases Int.lt_or_le 0 (le8 (D.drop (a.length+b.length))) with hp|hp
  ·have:=Int.mul_le_mul_of_nonneg_left (show(1:Int)≤le8 (D.drop (a.length+b.length)) from hp) (Int.le_of_lt (p256 (a.length+b.length)))
   omega
  ·omega
 refine⟨?_,bytes_reverse (bytes_take h.bytes _),by simpa using hlen⟩
 rw[←le8_reverse,List.reverse_reverse]
 rw[hz] at e
 omega
def powB (n:Nat):List Int:=(2:Int)^(n%8)::List.replicate (n/8) 0
theorem beN_zeros (n:Nat):beN (List.replicate n 0)=0:=by
 rw[←le8_reverse,List.reverse_replicate,le8_zeros]
theorem powB_num (n:Nat):beN (powB n)=2^n:=by
 unfold powB
 rw[beN_cons,beN_zeros,List.length_replicate,Int.add_zero]
 have h:(256:Int)=2^8:=by decide
 rw[h,←Int.pow_mul,←Int.pow_add]
 congr 1
 omega
theorem pow2_lt8 (m:Nat) (h:m<8):(0:Int)≤2^m∧(2:Int)^m<256:=by
 match m,h with
 |0,_|1,_|2,_|3,_|4,_|5,_|6,_|7,_=>decide
theorem powB_bytes (n:Nat):Bytes (powB n):=by
 intro x hx
 unfold powB at hx
 rcases List.mem_cons.1 hx with rfl|hx
 ·exact pow2_lt8 _ (Nat.mod_lt _ (by omega))
 ·rw[(List.mem_replicate.1 hx).2];omega
end Go.Proofs.YtkplnbjgkhmbcaaGreatDoor
namespace Go.Proofs.YtkplnbjgkhmbcaaGreatDoor
open Go.RowKit Go.Proofs.YtkplnbjgkhmbcaaGreatDoorW.PrintWords Go.Proofs.YtkplnbjgkhmbcaaGreatDoorW.PrintLast Go.Proofs.YtkplnbjgkhmbcaaGreatDoorW.PrintMore Go.Proofs.YtkplnbjgkhmbcaaGreatDoor.PFnCompare Go.Proofs.YtkplnbjgkhmbcaaGreatDoor.PCmp Go.Proofs.YtkplnbjgkhmbcaaGreatDoor.PbytesOf
set_option linter.unusedVariables false
set_option linter.unusedSimpArgs false
set_option maxRecDepth 100000 in
theorem digit_c (B:Nat) (v:Value) (l:List Int) (i:Nat) (w:World) (h:Sl .u8 B w v l) (hl:Bytes l) (hn:l.length≤2147483647) (hi:i≤2147483647):
 Calls Tryz.prog 180 #[v, .int .i64 i] w fun e w'=>e= .returned (.int .i64 (dg l i))∧w'=w:=by
 obtain⟨A,c,rfl,h1,h2,h3⟩:=h
 by_cases hlt:i<l.length
 ·obtain⟨b,o,rfl,_,_,hc⟩:=h3 (by rintro rfl;simp at hlt)
  have HD:=Lib.hid (dg_in l i hlt)
  have hb:=dg_bd l i hl
  have hcell:=hc (l.length-1-i) (by omega)
  rw[←HD.out] at hcell
  obtain⟨d,hd⟩: ∃d,dg l i=d:=⟨_,rfl⟩
  rw[hd] at hcell hb⊢
  clear HD hd hc h3 hl
  have e1:((l.length:Int)-1-i).toNat=l.length-1-i:=by omega
  have e0:(0:Int)≤(l.length:Int)-1-i:=by omega
  have e2:(l.length:Int)-1-i<l.length:=by omega
  have hge:decide ((l.length:Int)≤i)=false:=by simp;omega
  go_enter Tryz.func180,Tryz.ntmps180
  go_wp2
  go_ret
  exact⟨rfl,rfl⟩
 ·rw[dg_out l i hlt]
  go_enter Tryz.func180,Tryz.ntmps180
  go_wp2
  go_ret
  exact⟨rfl,rfl⟩
theorem intInfoE:(Tryz.prog.info? 3).map (fun i=>(i.zero,i.size,i.bytes))=some (some (.int .i64 0),1,8):=by kernel_rfl
theorem byteInfo:(Tryz.prog.info? 5).map (fun i=>(i.zero,i.size,i.bytes))=some (some (.int .u8 0),1,1):=by kernel_rfl
theorem make_row (k:IntKind) (t e bytes:Nat) (ht:Tryz.prog.underlying t=some (.slice e)) (hinfo:(Tryz.prog.info? e).map (fun i=>(i.zero,i.size,i.bytes))=some (some (.int k 0),1,bytes)) (n:Nat) (hb:bytes*n≤281474976710656) (hn:n≤281474976710656):
 ∃O:Obj,(∀w,(Instr.makeSlice t (.int .i64 n) (.int .i64 n)).run Tryz.prog w= .ok (.slice (some ⟨w.heap.size,0,none⟩) n n) (w.alloc O))∧ ∀w:World,IRow k (w.alloc O) w.heap.size (List.replicate n 0):=by
 obtain⟨i,hi,hzz⟩:=Option.map_eq_some_iff.1 hinfo
 simp only[Prod.mk.injEq] at hzz
 obtain⟨hz,hs,hby⟩:=hzz
 refine⟨.cells (madeCells (Value.int k 0).cells n) e,fun w=>?_,fun w=>?_⟩
 ·have:=run_make (P:=Tryz.prog) w t e i (.int k 0) ht hi hz .i64 .i64 n n (by omega) (by omega) (by rw[hby];have h:=(Int.ofNat_le (m:=bytes*n) (n:=281474976710656)).2 hb;rw[Int.natCast_mul] at h;exact h) (by omega)
  simpa [hs] using this
 ·exact irow_zeros w k n n e (Nat.le_refl _)
structure MX (w0:World) (n1 n2:Bool) (s1 s2:Value) (w:World):Prop where
 b1:w.heap[w0.heap.size]?=some (.cells #[.bool n1,s1] 54 (0,0))
 b2:w.heap[w0.heap.size+1]?=some (.cells #[.bool n2,s2] 54 (0,0))
 b3:w.heap[w0.heap.size+2]?=some (.cells #[.bool false, .slice none 0 0] 54 (0,0))
 low:Below w0.heap.size w0 w
section
variable {w0 w:World} {n1 n2:Bool} {s1 s2:Value}
theorem MX.cells (h:MX w0 n1 n2 s1 s2 w):w.cell? ⟨w0.heap.size,0,none⟩=some (.bool n1)∧w.cell? ⟨w0.heap.size,1,none⟩=some s1∧w.cell? ⟨w0.heap.size+1,0,none⟩=some (.bool n2)∧w.cell? ⟨w0.heap.size+1,1,none⟩=some s2:=
 ⟨(blk_cell h.b1 0).trans rfl,(blk_cell h.b1 1).trans rfl,(blk_cell h.b2 0).trans rfl,(blk_cell h.b2 1).trans rfl⟩
theorem MX.set (h:MX w0 n1 n2 s1 s2 w) {p:Addr} (hp:w0.heap.size+2<p.block) (u:Value):MX w0 n1 n2 s1 s2 (w.setCell p u):=
 ⟨blk_far h.b1 (by omega) u,blk_far h.b2 (by omega) u,blk_far h.b3 (by omega) u,h.low.setCell (by omega) u⟩
theorem MX.alloc (h:MX w0 n1 n2 s1 s2 w) (o:Obj):MX w0 n1 n2 s1 s2 (w.alloc o):=⟨blk_alloc h.b1 o,blk_alloc h.b2 o,blk_alloc h.b3 o,h.low.alloc h.low.size o⟩
theorem MX.drewN (h:MX w0 n1 n2 s1 s2 w) (n:Nat):MX w0 n1 n2 s1 s2 (w.drewN n):=⟨h.b1,h.b2,h.b3,pw_below_drewN h.low n⟩
theorem IRow.drewN {k:IntKind} {b:Nat} {l:List Int} (h:IRow k w b l) (n:Nat):IRow k (w.drewN n) b l:=h
end
theorem cells2 {w:World} {g:Nat} {a b:Value} {t:TypeId} (h:w.heap[g]?=some (.cells #[a,b] t (0,0))):
 w.cell? ⟨g,0,none⟩=some a∧w.cell? ⟨g,1,none⟩=some b∧w.frozen? ⟨g,0,none⟩=false∧w.frozen? ⟨g,1,none⟩=false:=
 ⟨(blk_cell h 0).trans rfl,(blk_cell h 1).trans rfl,blk_frozen h 0,blk_frozen h 1⟩
theorem blk_keep' {w w':World} {g:Nat} {o:Obj} (h:w.heap[g]?=some o) (hb:Below w.heap.size w w'):w'.heap[g]?=some o:=blk_below h hb
theorem size_set (w:World) (p:Addr) (u:Value):(w.setCell p u).heap.size=w.heap.size:=by simp[World.setCell]
theorem val_mul (n1 n2:Bool) (a b l:List Int) (h:beN l=beN a*beN b):val (n1 !=n2) l=val n1 a*val n2 b:=by
 unfold val
 rw[h]
 cases n1<;>cases n2<;>simp[Int.neg_mul,Int.mul_neg]
set_option maxRecDepth 100000 in
set_option maxHeartbeats 2000000 in
theorem mul_c (B1 B2:Nat) (n1 n2:Bool) (v1 v2:Value) (a b:List Int) (w:World) (h1:SInt B1 w v1 n1 a) (h2:SInt B2 w v2 n2 b) (ha:Bytes a) (hb:Bytes b) (hla:a.length≤100000) (hlb:b.length≤100000):
 Calls Tryz.prog 176 #[v1,v2] w fun e w'=> ∃v n l,e= .returned v∧SInt w.heap.size w' v n l∧Good n l∧val n l=val n1 a*val n2 b∧l.length≤a.length+b.length∧Below w.heap.size w w':=by
 obtain⟨s1,rfl,hs1⟩:=h1
 obtain⟨s2,rfl,hs2⟩:=h2
 obtain⟨A1,c1,rfl,_⟩:=hs1.c
 obtain⟨A2,c2,rfl,_⟩:=hs2.c
 have H1:=Lib.hid hs1
 have H2:=Lib.hid hs2
 clear hs1 hs2
 have HA:=Lib.hid ha
 have HB:=Lib.hid hb
 clear ha hb
 obtain⟨O1,hm1,hr1⟩:=make_row .i64 226 3 8 Tryz.underlying226 intInfoE (a.length+b.length+1) (by omega) (by omega)
 obtain⟨O2,hm2,hr2⟩:=make_row .u8 22 5 1 Tryz.underlying22 byteInfo (a.length+b.length) (by omega) (by omega)
 have HR1:=Lib.hid hr1
 have HR2:=Lib.hid hr2
 clear hr1 hr2
 push_cast at hm1 hm2
 go_enter Tryz.func176,Tryz.ntmps176
 go_wp2
 have HX:Hid (MX w n1 n2 (.slice A1 a.length c1) (.slice A2 b.length c2) ((((w.alloc (.cells #[.bool n1, .slice A1 a.length c1] 54)).alloc (.cells #[.bool n2, .slice A2 b.length c2] 54)).alloc (.cells #[.bool false, .slice none 0 0] 54)).alloc O1)):=
  ⟨blk_alloc (blk_alloc (blk_alloc (blk_new _ _) _) _) _,blk_alloc (blk_alloc (by simpa using blk_new (w.alloc _) _) _) _,blk_alloc (by simpa using blk_new ((w.alloc _).alloc _) _) _,(((((Below.refl _ _).alloc (Nat.le_refl _) _).alloc (by simp) _).alloc (by simp;omega) _).alloc (by simp;omega) _)⟩
 have HR:Hid (IRow .i64 ((((w.alloc (.cells #[.bool n1, .slice A1 a.length c1] 54)).alloc (.cells #[.bool n2, .slice A2 b.length c2] 54)).alloc (.cells #[.bool false, .slice none 0 0] 54)).alloc O1) (w.heap.size+1+1+1) (List.replicate (a.length+b.length+1) 0)):=by
  refine Lib.hid ?_
  simpa using HR1.out (((w.alloc (.cells #[.bool n1, .slice A1 a.length c1] 54)).alloc (.cells #[.bool n2, .slice A2 b.length c2] 54)).alloc (.cells #[.bool false, .slice none 0 0] 54))
 generalize (((w.alloc (.cells #[.bool n1, .slice A1 a.length c1] 54)).alloc (.cells #[.bool n2, .slice A2 b.length c2] 54)).alloc (.cells #[.bool false, .slice none 0 0] 54)).alloc O1=wc at HX HR⊢
 go_loopw [7] (fun iv wr=> ∃(i:Nat) (D:List Int),iv= .int .i64 i∧i≤a.length∧Hid (MulOut a b i D)∧Hid (MX w n1 n2 (.slice A1 a.length c1) (.slice A2 b.length c2) wr)∧Hid (IRow .i64 wr (w.heap.size+1+1+1) D)) (fun iv _=>a.length-(intOf iv).toNat)
 case atStart=>exact⟨0,_,rfl,Nat.zero_le _,mul_start a b,HX,HR⟩
 case round=>
  clear HX HR
  obtain⟨i,D,rfl,hi,HO,HX,HR⟩:=hrel
  obtain⟨x0,x1,x2,x3⟩:=HX.out.cells
  by_cases hia:i<a.length
  ·go_upto_region 8 with fail
   obtain⟨wo,hwo⟩: ∃wo:World,wo=wr:=⟨_,rfl⟩
   rw[←hwo] at HX HR x0 x1 x2 x3⊢
   clear hwo
   go_loopw [8,9] (fun cv kv wq=> ∃(k:Nat) (E:List Int) (c:Int),cv= .int .i64 c∧kv= .int .i64 k∧k≤a.length+b.length+1∧Hid (MulIn a b i k E c)∧Hid (MX w n1 n2 (.slice A1 a.length c1) (.slice A2 b.length c2) wq)∧Hid (IRow .i64 wq (w.heap.size+1+1+1) E)) (fun _ kv _=>a.length+b.length+2-(intOf kv).toNat)
   case atStart=>exact⟨0,_,_,rfl,rfl,by omega,mul_inner HO.out,HX,HR⟩
   case round=>
    clear HX HR x0 x1 x2 x3 HO D
    obtain⟨k,E,c,rfl,rfl,hk,HM,HX,HR⟩:=hrel
    obtain⟨x0,x1,x2,x3⟩:=HX.out.cells
    have step:(k<b.length∨0<c)→ ∃(d da db p s1 s:Int),Hid (MulIn a b i (k+1) (E.set (i+k) (s%256)) (s/256))∧wr.cell? ⟨w.heap.size+1+1+1,i+k,none⟩=some (.int .i64 d)∧wr.frozen? ⟨w.heap.size+1+1+1,i+k,none⟩=false∧
     Hid (∀n,Calls Tryz.prog 180 #[.slice A1 a.length c1, .int .i64 i] (wr.drewN n) fun e w'=>e= .returned (.int .i64 da)∧w'=wr.drewN n)∧Hid (∀n,Calls Tryz.prog 180 #[.slice A2 b.length c2, .int .i64 k] (wr.drewN n) fun e w'=>e= .returned (.int .i64 db)∧w'=wr.drewN n)∧
     IntKind.i64.wrap (da*db)=p∧IntKind.i64.wrap (d+p)=s1∧IntKind.i64.wrap (s1+c)=s∧0≤s∧s<65536∧i+k<a.length+b.length+1:=by
     intro hgo
     have hik:=mul_index HM.out HA.out HB.out hia hgo
     obtain⟨q0,q1,q2⟩:=mul_step HM.out HA.out HB.out hik
     obtain⟨a0,a1⟩:=dg_bd a i HA.out
     obtain⟨b0,b1⟩:=dg_bd b k HB.out
     obtain⟨d0,d1⟩:=HM.out.bytes _ (List.getElem_mem hik)
     have c0:=HM.out.c0
     have c1':=HM.out.c1
     have p0:0≤dg a i*dg b k:=Int.mul_nonneg a0 b0
     have p1:dg a i*dg b k≤255*255:=Int.le_trans (Int.mul_le_mul_of_nonneg_right (by omega:dg a i≤255) b0) (Int.mul_le_mul_of_nonneg_left (by omega) (by omega))
     refine⟨E[i+k],dg a i,dg b k,dg a i*dg b k,E[i+k]+dg a i*dg b k,E[i+k]+dg a i*dg b k+c,q2,HR.out.1 _ hik,HR.out.2 _ hik,fun n=>digit_c _ _ a i _ (H1.out.below (pw_below_drewN HX.out.low n)) HA.out (by omega) (by omega),fun n=>digit_c _ _ b k _ (H2.out.below (pw_below_drewN HX.out.low n)) HB.out (by omega) (by omega),IntWalk.i64_in _ (by omega),IntWalk.i64_in _ (by omega),IntWalk.i64_in _ (by omega),q0,q1,?_⟩
     rw[HM.out.len] at hik
     exact hik
    have hc0:=HM.out.c0
    have HR2:=Lib.hid HM.out.len
    have hcl:k<b.length∨(¬k<b.length∧0<c)∨(¬k<b.length∧c=0):=by omega
    rcases hcl with hgo|⟨hkb,hgo⟩|⟨hkb,hgo⟩
    ·obtain⟨d,da,db,p,s1,s,HM2,hcell,hfr,HDa,HDb,ep,es1,es,s0,s9,hik⟩:=step (Or.inl hgo)
     clear step HM hc0
     have e44:IntKind.i64.wrap ((i:Int)+k)=(i:Int)+k:=IntWalk.i64_in _ (by omega)
     have z44:(0:Int)≤(i:Int)+k:=by omega
     have t44:((i:Int)+k).toNat=i+k:=by omega
     have l44:(i:Int)+k<a.length+b.length+1:=by omega
     go_upto_region 10 with fail
     go_quiet (first|(go_at_call_of 180 (Value.slice A1 a.length c1);exact Calls.quiet_of_same (HDa.out _))|(go_at_call 180;exact Calls.quiet_of_same (HDb.out _)))
     clear ep es1 es
     go_wp2_with fail
     go_roundw
     case rel=>exact⟨k+1,_,_,rfl,by go_num,by omega,HM2,(HX.out.drewN _).set (by show w.heap.size+2<w.heap.size+1+1+1;omega) _,(HR.out.drewN _).set _ (by rw[HR2.out];omega) _⟩
     case measure=>simp[intOf];omega
    ·obtain⟨d,da,db,p,s1,s,HM2,hcell,hfr,HDa,HDb,ep,es1,es,s0,s9,hik⟩:=step (Or.inr hgo)
     clear step HM hc0
     have e44:IntKind.i64.wrap ((i:Int)+k)=(i:Int)+k:=IntWalk.i64_in _ (by omega)
     have z44:(0:Int)≤(i:Int)+k:=by omega
     have t44:((i:Int)+k).toNat=i+k:=by omega
     have l44:(i:Int)+k<a.length+b.length+1:=by omega
     go_upto_region 10 with fail
     go_quiet (first|(go_at_call_of 180 (Value.slice A1 a.length c1);exact Calls.quiet_of_same (HDa.out _))|(go_at_call 180;exact Calls.quiet_of_same (HDb.out _)))
     clear ep es1 es
     go_wp2_with fail
     go_roundw
     case rel=>exact⟨k+1,_,_,rfl,by go_num,by omega,HM2,(HX.out.drewN _).set (by show w.heap.size+2<w.heap.size+1+1+1;omega) _,(HR.out.drewN _).set _ (by rw[HR2.out];omega) _⟩
     case measure=>simp[intOf];omega
    ·subst hgo
     clear step
     have HO2:=Lib.hid (mul_done HM.out (Nat.not_lt.1 hkb))
     clear HM hc0
     go_wp2_with fail
     go_roundw
     case rel=>exact⟨i+1,E,by go_num,by omega,HO2,HX,HR⟩
     case measure=>simp[intOf];omega
  ·obtain rfl:i=a.length:=by omega
   clear hia hi
   have hDl:=HO.out.len
   have HE:=Lib.hid (mul_end HO.out HA.out HB.out)
   have HDB:=Lib.hid HO.out.bytes
   clear HO
   go_upto_region 15 with fail
   have HR3:Hid (IRow .u8 (wr.alloc O2) wr.heap.size (List.replicate (a.length+b.length) 0)):=HR2.out wr
   have HRD:Hid (IRow .i64 (wr.alloc O2) (w.heap.size+1+1+1) D):=HR.out.alloc (lt_of_cell (HR.out.1 0 (by omega))) _
   have HX3:=Lib.hid (HX.out.alloc O2)
   have hg:w.heap.size+1+1+1<wr.heap.size:=lt_of_cell (HR.out.1 0 (by omega))
   have hgs:(wr.alloc O2).heap.size=wr.heap.size+1:=by simp
   generalize wr.alloc O2=wd at HR3 HRD HX3 hgs⊢
   obtain⟨g,hg'⟩: ∃g,g=wr.heap.size:=⟨_,rfl⟩
   rw[←hg'] at HR3 hg hgs⊢
   have HGS:=Lib.hid hgs
   clear hgs hg' HX HR x0 x1 x2 x3
   go_loopw [12] (fun iv wq=> ∃(i:Nat),iv= .int .i64 i∧i≤a.length+b.length∧Hid (MX w n1 n2 (.slice A1 a.length c1) (.slice A2 b.length c2) wq)∧Hid (IRow .i64 wq (w.heap.size+1+1+1) D)∧Hid (IRow .u8 wq g (List.replicate (a.length+b.length-i) 0++(D.take i).reverse))∧Hid (wq.heap.size=g+1)) (fun iv _=>a.length+b.length-(intOf iv).toNat)
   case atStart=>exact⟨0,rfl,Nat.zero_le _,HX3,HRD,by refine Lib.hid ?_;simpa using HR3.out,HGS⟩
   case round=>
    clear HX3 HRD HR3 HGS
    obtain⟨i,rfl,hi,HX,HRD,HR,HGS⟩:=hrel
    by_cases hlt:i<a.length+b.length
    ·have hiD:i<D.length:=by omega
     have hcd:=HRD.out.1 i hiD
     obtain⟨d0,d9⟩:=HDB.out _ (List.getElem_mem hiD)
     have HN:Hid (List.replicate (a.length+b.length-(i+1)) 0++(D.take (i+1)).reverse=(List.replicate (a.length+b.length-i) 0++(D.take i).reverse).set (a.length+b.length-1-i) D[i]):=by
      refine Lib.hid ?_
      rw[List.take_succ_eq_append_getElem hiD,List.reverse_append,List.set_append_left _ _ (by rw[List.length_replicate];omega)]
      rw[show a.length+b.length-i=(a.length+b.length-(i+1))+1 from by omega,show a.length+b.length-1-i=a.length+b.length-(i+1) from by omega,List.replicate_succ']
      rw[List.set_append_right _ _ (by rw[List.length_replicate];exact Nat.le_refl _),List.length_replicate,Nat.sub_self]
      simp
     have hll:a.length+b.length-1-i<(List.replicate (a.length+b.length-i) 0++(D.take i).reverse).length:=by
      rw[List.length_append,List.length_replicate];omega
     obtain⟨y,hco⟩: ∃y,wr.cell? ⟨g,a.length+b.length-1-i,none⟩=some (.int .u8 y):=⟨_,HR.out.1 _ hll⟩
     have hfo:=HR.out.2 _ hll
     have HRS:=Lib.hid (HR.out.set (a.length+b.length-1-i) hll D[i])
     rw[←HN.out] at HRS
     obtain⟨d,hd⟩: ∃d,D[i]=d:=⟨_,rfl⟩
     rw[hd] at hcd d0 d9 HRS
     clear hd HN hll
     have z1:(0:Int)≤(a.length:Int)+b.length-1-i:=by omega
     have t1:((a.length:Int)+b.length-1-i).toNat=a.length+b.length-1-i:=by omega
     have l1:(a.length:Int)+b.length-1-i<a.length+b.length:=by omega
     have e8:d%256=d:=by omega
     have h12:(i:Int)<a.length+b.length:=by omega
     have h13:(i:Int)<a.length+b.length+1:=by omega
     go_wp2_with fail
     clear e8
     go_roundw
     case rel=>exact⟨i+1,by go_num,by omega,HX.out.set (by show w.heap.size+2<g;omega) _,HRD.out.setOther _ _ (by show g≠_;omega),HRS,(size_set _ _ _).trans HGS.out⟩
     case measure=>simp[intOf];omega
    ·obtain rfl:i=a.length+b.length:=by omega
     clear hlt hi
     have HL:Hid (Sl .u8 g wr (.slice (some ⟨g,0,none⟩) (a.length+b.length) (a.length+b.length)) (D.take (a.length+b.length)).reverse):=by
      have h1:=HR.out
      rw[Nat.sub_self,List.replicate_zero,List.nil_append] at h1
      have h2:=h1.sl' (c:=a.length+b.length) (by rw[HGS.out];omega) (by rw[HE.out.2.2];omega) (by rw[HE.out.2.2];omega)
      rw[HE.out.2.2] at h2
      exact h2
     obtain⟨l,hl⟩: ∃l,(D.take (a.length+b.length)).reverse=l:=⟨_,rfl⟩
     rw[hl] at HL HE
     have HOf:=Lib.hid (fun(neg:Bool)=>of_c neg _ _ l wr HL.out (by rw[HE.out.2.2];omega))
     obtain⟨x0,x1,x2,x3⟩:=HX.out.cells
     obtain⟨nn,hnn⟩: ∃nn,(n1 !=n2)=nn:=⟨_,rfl⟩
     have HV:=Lib.hid (val_mul n1 n2 a b l HE.out.1)
     rw[hnn] at HV
     have hn2:(!(n1==n2))=nn:=hnn
     clear hl HR HRD HDB
     have hcl:cutL l=cutL l:=rfl
     clear hcl
     go_wp2_with (go_at_call 24;refine(HOf.out nn).mono ?_;rintro e w2 ⟨v2,rfl,⟨s2,rfl,hs2⟩,hb2⟩;obtain⟨A3,c3,rfl,_⟩:=hs2.c;have HS2:=Lib.hid hs2;have HB2:=Lib.hid hb2;have k3:=blk_keep' HX.out.b3 hb2;have q0:=(blk_cell k3 0).trans rfl;have q1:=(blk_cell k3 1).trans rfl;have f0:=blk_frozen k3 0;have f1:=blk_frozen k3 1;clear hs2 hb2 k3)
     have hlow:=HX.out.low.size
     have hsz2:=HB2.out.size
     have h3lt:=lt_of_cell (blk_cell HX.out.b3 0▸rfl:wr.cell? ⟨w.heap.size+2,0,none⟩=some (.bool false))
     refine bodyPost_ret (v:= .agg #[.bool (nn&&decide (0<(cutL l).length)), .slice A3 (cutL l).length c3]) (by simp[results,Tryz.results176,go_sem,q0,q1]) rfl ⟨_,_,cutL l,rfl,⟨_,rfl,?_⟩,good_of nn l HE.out.2.1 (by rw[HE.out.2.2];omega),(val_of nn l HE.out.2.1).trans HV.out,by rw[←HE.out.2.2];exact cutL_length l,?_⟩
     ·exact((HS2.out.setCell (p:=⟨w.heap.size+1+1,0,none⟩) _ (by show w.heap.size+1+1<wr.heap.size;omega)).setCell (p:=⟨w.heap.size+1+1,1,none⟩) _ (by show w.heap.size+1+1<wr.heap.size;omega)).mono hlow
     ·exact((HX.out.low.trans (HB2.out.mono hlow)).setCell (p:=⟨w.heap.size+1+1,0,none⟩) (by show w.heap.size≤w.heap.size+1+1;omega) _).setCell (p:=⟨w.heap.size+1+1,1,none⟩) (by show w.heap.size≤w.heap.size+1+1;omega) _
theorem good_pow (n:Nat) (h:n≤100000):Good (false&&decide (0<(cutL (powB n)).length)) (cutL (powB n)):=
 good_of false (powB n) (powB_bytes n) (by unfold powB;simp;omega)
set_option maxRecDepth 100000 in
set_option maxHeartbeats 2000000 in
theorem power_c (n:Nat) (w:World) (hn:n≤100000):
 Calls Tryz.prog 177 #[.int .i64 n] w fun e w'=> ∃A c l,e= .returned (.agg #[.bool false, .slice A l.length c])∧Sl .u8 w.heap.size w' (.slice A l.length c) l∧Good false l∧val false l=2^n∧l.length≤n/8+1∧Below w.heap.size w w':=by
 obtain⟨O1,hm1,hr1⟩:=make_row .u8 22 5 1 Tryz.underlying22 byteInfo (n/8+1) (by omega) (by omega)
 have HR1:=Lib.hid hr1
 clear hr1
 obtain⟨m,hm⟩: ∃m,n/8=m:=⟨_,rfl⟩
 have hP:powB n=(2:Int)^(n%8)::List.replicate m 0:=by unfold powB;rw[hm]
 have HG:=Lib.hid (good_pow n hn)
 have HV:=Lib.hid (val_of false (powB n) (powB_bytes n))
 have HPn:=Lib.hid (powB_num n)
 have hPl:(powB n).length=m+1:=by rw[hP];simp
 have hcl:=cutL_length (powB n)
 obtain⟨r,hr⟩: ∃r,n%8=r:=⟨_,rfl⟩
 rw[hr] at hP
 have hr8:r<8:=by omega
 have hmi:(n:Int)/8=m:=by omega
 have hri:(n:Int)%8=r:=by omega
 rw[hm] at HR1 hm1
 push_cast at hm1
 have HP:=Lib.hid hP
 have HPL:=Lib.hid hPl
 have H0:=Lib.hid (And.intro hm hcl)
 clear hP hPl hr hm hcl
 have hm0:(0:Int)<(m:Int)+1:=by omega
 have HRW:Hid (∀w1:World,IRow .u8 w1 w1.heap.size []→True):=fun _ _=>trivial
 clear HRW
 have key: ∀(W:World),W=(w.alloc (.cells #[.bool false, .slice none 0 0] 54)).alloc O1→ ∃W2:World,W2=W.setCell ⟨w.heap.size+1,0,none⟩ (.int .u8 (2^r))∧IRow .u8 W2 (w.heap.size+1) (powB n)∧W.cell? ⟨w.heap.size+1,0,none⟩=some (.int .u8 0)∧W.frozen? ⟨w.heap.size+1,0,none⟩=false∧Below w.heap.size w W2∧W2.heap[w.heap.size]?=some (.cells #[.bool false, .slice none 0 0] 54 (0,0))∧W2.heap.size=w.heap.size+2:=by
  rintro W rfl
  have hr:=HR1.out (w.alloc (.cells #[.bool false, .slice none 0 0] 54))
  have e:(w.alloc (.cells #[.bool false, .slice none 0 0] 54)).heap.size=w.heap.size+1:=by simp
  rw[e,List.replicate_succ] at hr
  refine⟨_,rfl,?_,?_,?_,?_,?_,?_⟩
  ·rw[HP.out]
   exact hr.set 0 (by simp) _
  ·exact hr.1 0 (by simp)
  ·exact hr.2 0 (by simp)
  ·exact(((Below.refl _ _).alloc (Nat.le_refl _) _).alloc (by simp) _).setCell (by show w.heap.size≤w.heap.size+1;omega) _
  ·exact blk_far (blk_alloc (blk_new _ _) _) (by show w.heap.size≠w.heap.size+1;omega) _
  ·rw[size_set];simp
 obtain⟨W2,hW2,hrow,hc0,hf0,hlow,hblk,hsz⟩:=key _ rfl
 have HK:=Lib.hid (And.intro hrow (And.intro hlow (And.intro hblk hsz)))
 clear key hrow hlow hblk hsz HR1
 have HOf:=Lib.hid (fun(l0:List Int) (v:Value) (h:Sl .u8 0 W2 v l0) (hl:l0.length<140737488355328)=>of_c false 0 v l0 W2 h hl)
 have hcases:r=0∨r=1∨r=2∨r=3∨r=4∨r=5∨r=6∨r=7:=by omega
 rcases hcases with rfl|rfl|rfl|rfl|rfl|rfl|rfl|rfl
 all_goals
  simp only[Int.reducePow,Int.reducePow] at hW2
  go_enter Tryz.func177,Tryz.ntmps177
  go_wp2_with (go_at_call 24;rw[←hW2];refine(HOf.out (powB n) _ ((HK.out.1.sl' (c:=m+1) (by rw[HK.out.2.2.2];omega) (by rw[HPL.out];omega) (by rw[HPL.out];omega)).mono (Nat.zero_le _)|>fun h=>by rw[HPL.out] at h;exact h) (by rw[HPL.out];omega)).mono ?_;rintro e w2 ⟨v2,rfl,⟨s2,rfl,hs2⟩,hb2⟩;obtain⟨A3,c3,rfl,_⟩:=hs2.c;have HS2:=Lib.hid hs2;have HB2:=Lib.hid hb2;have k3:=blk_keep' HK.out.2.2.1 hb2;have q0:=(blk_cell k3 0).trans rfl;have q1:=(blk_cell k3 1).trans rfl;have f0:=blk_frozen k3 0;have f1:=blk_frozen k3 1;clear hs2 hb2 k3)
  have hlow:=HK.out.2.1.size
  refine bodyPost_ret (v:= .agg #[.bool false, .slice A3 (cutL (powB n)).length c3]) (by simp[results,Tryz.results177,go_sem,q0,q1]) rfl ⟨_,_,cutL (powB n),rfl,?_,HG.out,HV.out.trans (by unfold val;simp[HPn.out]),by have:=H0.out;have:=HPL.out;omega,?_⟩
  ·exact((HS2.out.setCell (p:=⟨w.heap.size,0,none⟩) _ (by show w.heap.size<W2.heap.size;rw[HK.out.2.2.2];omega)).setCell (p:=⟨w.heap.size,1,none⟩) _ (by show w.heap.size<W2.heap.size;rw[HK.out.2.2.2];omega)).mono hlow
  ·exact((HK.out.2.1.trans (HB2.out.mono hlow)).setCell (Nat.le_refl _) _).setCell (Nat.le_refl _) _
theorem zero_c (B:Nat) (n:Bool) (v:Value) (l:List Int) (w:World) (h:SInt B w v n l):
 Calls Tryz.prog 113 #[v] w fun e w'=>e= .returned (.bool ((l.length:Int)==0))∧Below w.heap.size w w':=by
 obtain⟨s,rfl,hs⟩:=h
 obtain⟨A,c,rfl,l1,k1⟩:=hs.c
 exact spec_Int_Zero.calls n A c l _ w k1 l1 rfl
set_option maxRecDepth 100000 in
set_option maxHeartbeats 2000000 in
theorem lsh_c (B:Nat) (n:Bool) (v:Value) (l:List Int) (k:Nat) (w:World) (h:SInt B w v n l) (hg:Good n l) (hl:l.length≤1000) (hk:k≤100000):
 Calls Tryz.prog 143 #[v, .int .i64 k] w fun e w'=> ∃A c n' l',e= .returned (.agg #[.bool n', .slice A l'.length c])∧Sl .u8 w.heap.size w' (.slice A l'.length c) l'∧Good n' l'∧val n' l'=val n l*2^k∧l'.length≤l.length+k/8+1∧Below w.heap.size w w':=by
 have H:=Lib.hid h
 obtain⟨s,rfl,hs⟩:=h
 obtain⟨A,c,rfl,_⟩:=hs.c
 clear hs
 obtain⟨W,hW⟩: ∃W,W=(w.alloc (.cells #[.bool n, .slice A l.length c] 54)).alloc (.cells #[.bool false, .slice none 0 0] 54):=⟨_,rfl⟩
 have hb1:W.heap[w.heap.size]?=some (.cells #[.bool n, .slice A l.length c] 54 (0,0)):=by rw[hW];exact blk_alloc (blk_new _ _) _
 have hb2:W.heap[w.heap.size+1]?=some (.cells #[.bool false, .slice none 0 0] 54 (0,0)):=by rw[hW];simpa using blk_new (w.alloc _) _
 have hlow:Below w.heap.size w W:=by rw[hW];exact((Below.refl _ _).alloc (Nat.le_refl _) _).alloc (by simp) _
 have hsz:W.heap.size=w.heap.size+2:=by rw[hW];simp
 have HK:=Lib.hid (And.intro hb1 (And.intro hb2 (And.intro hlow hsz)))
 obtain⟨c0,c1,_,_⟩:=cells2 hb1
 obtain⟨q0,q1,f0,f1⟩:=cells2 hb2
 clear hb1 hb2 hlow hsz
 have HZ:=Lib.hid (zero_c B n _ l W (by obtain⟨s,e,hs⟩:=H.out;exact⟨s,e,hs.below HK.out.2.2.1⟩))
 have HG:=Lib.hid hg
 clear hg
 by_cases hz:l=[]
 ·have hlb:((l.length:Int)==0)=true:=by rw[hz];rfl
  rw[hlb] at HZ
  clear hlb
  have HE:=Lib.hid hz
  clear hz
  go_enter Tryz.func143,Tryz.ntmps143
  go_wp2_with (go_at_call 113;rw[←hW];refine HZ.out.mono ?_;rintro e w1 ⟨rfl,hb⟩;have HB:=Lib.hid hb;have z0:=(hb.cell (p:=⟨w.heap.size+1,0,none⟩) (by show w.heap.size+1<_;rw[HK.out.2.2.2];omega)).trans q0;have z1:=(hb.cell (p:=⟨w.heap.size+1,1,none⟩) (by show w.heap.size+1<_;rw[HK.out.2.2.2];omega)).trans q1;have g0:=(hb.frozen (p:=⟨w.heap.size+1,0,none⟩) (by show w.heap.size+1<_;rw[HK.out.2.2.2];omega)).trans f0;have g1:=(hb.frozen (p:=⟨w.heap.size+1,1,none⟩) (by show w.heap.size+1<_;rw[HK.out.2.2.2];omega)).trans f1;clear hb)
  have hn:=HG.out.zero HE.out
  refine bodyPost_ret (v:= .agg #[.bool false, .slice none 0 0]) (by simp[results,Tryz.results143,go_sem,z0,z1]) rfl ⟨none,0,false,[],rfl,Sl.nil,⟨fun x hx=>(by cases hx),fun x r h=>(by cases h),fun _=>rfl,by simp⟩,by rw[HE.out,hn];simp[val,beN],by simp,?_⟩
  exact((HK.out.2.2.1.trans (HB.out.mono HK.out.2.2.1.size)).setCell (p:=⟨w.heap.size+1,0,none⟩) (by show w.heap.size≤w.heap.size+1;omega) _).setCell (p:=⟨w.heap.size+1,1,none⟩) (by show w.heap.size≤w.heap.size+1;omega) _
 ·have hlb:((l.length:Int)==0)=false:=by have:=List.length_pos_iff.2 hz;simp;omega
  rw[hlb] at HZ
  clear hlb hz
  go_enter Tryz.func143,Tryz.ntmps143
  go_wp2_with (go_at_call 113;rw[←hW];refine HZ.out.mono ?_;rintro e w1 ⟨rfl,hb⟩;have HB:=Lib.hid hb;have y0:=(hb.cell (p:=⟨w.heap.size,0,none⟩) (by show w.heap.size<_;rw[HK.out.2.2.2];omega)).trans c0;have y1:=(hb.cell (p:=⟨w.heap.size,1,none⟩) (by show w.heap.size<_;rw[HK.out.2.2.2];omega)).trans c1;have hk2:=blk_keep' HK.out.2.1 hb;have HK2:=Lib.hid hk2;clear hb hk2)
  clear c0 c1 q0 q1 f0 f1 hW HZ
  have HL:Hid (Below w.heap.size w w1):=HK.out.2.2.1.trans (HB.out.mono HK.out.2.2.1.size)
  have hz1:w.heap.size+1<w1.heap.size:=blk_lt HK2.out
  go_region_with (first
   |(go_at_call 177;refine(power_c k _ hk).mono ?_;rintro e w2 ⟨A2,c2,l2,rfl,hs2,hg2,hv2,hl2,hb2⟩;have y0:=(hb2.cell (p:=⟨w.heap.size,0,none⟩) (by show w.heap.size<_;simp;omega)).trans (by first|exact y0|simpa using y0);have y1:=(hb2.cell (p:=⟨w.heap.size,1,none⟩) (by show w.heap.size<_;simp;omega)).trans (by first|exact y1|simpa using y1);have HS2:=Lib.hid hs2;have HG2:=Lib.hid (And.intro hg2 (And.intro hv2 hl2));(have HL2:Hid (Below w.heap.size w w2):=by first|exact HL.out.trans (hb2.mono HL.out.size)|exact HL.out.drew.trans (hb2.mono HL.out.size));(have HK3:Hid (w2.heap[w.heap.size+1]?=some (.cells #[.bool false, .slice none 0 0] 54 (0,0))):=by first|exact blk_keep' HK2.out hb2|exact blk_keep' (blk_drew HK2.out) hb2);clear hs2 hg2 hv2 hl2 hb2)
   |(go_at_call 176;refine(mul_c B _ n false _ _ l l2 _ (by obtain⟨s,e,hs⟩:=H.out;first|exact⟨s,e,hs.below HL2.out⟩|exact⟨s,e,hs.below HL2.out.drew⟩) (by first|exact⟨_,rfl,HS2.out⟩|exact⟨_,rfl,HS2.out.drew⟩) HG.out.bytes HG2.out.1.bytes (by omega) (by have:=HG2.out.2.2;omega)).mono ?_;rintro e w3 ⟨v3,n3,l3,rfl,⟨s3,rfl,hs3⟩,hg3,hv3,hl3,hb3⟩;obtain⟨A3,c3,rfl,_⟩:=hs3.c;have HS3:=Lib.hid hs3;have HG3:=Lib.hid (And.intro hg3 (And.intro hv3 hl3));(have HL3:Hid (Below w.heap.size w w3):=by first|exact HL2.out.trans (hb3.mono HL2.out.size)|exact HL2.out.drew.trans (hb3.mono HL2.out.size));(have hk4:w3.heap[w.heap.size+1]?=some (.cells #[.bool false, .slice none 0 0] 54 (0,0)):=by first|exact blk_keep' HK3.out hb3|exact blk_keep' (blk_drew HK3.out) hb3);obtain⟨q0,q1,f0,f1⟩:=cells2 hk4;have hz2:=blk_lt HK3.out;clear hs3 hg3 hv3 hl3 hb3 hk4))
  all_goals go_wp2
  all_goals refine bodyPost_ret (v:= .agg #[.bool n3, .slice A3 l3.length c3]) (by simp[results,Tryz.results143,go_sem,q0,q1]) rfl ⟨_,_,n3,l3,rfl,?_,HG3.out.1,(by rw[HG3.out.2.1,HG2.out.2.1]),(by have h1:=HG3.out.2.2;have h2:=HG2.out.2.2;omega),?_⟩
  all_goals first
   |exact((HS3.out.setCell (p:=⟨w.heap.size+1,0,none⟩) _ (by first|exact hz2|(simp;exact hz2))).setCell (p:=⟨w.heap.size+1,1,none⟩) _ (by first|exact hz2|(simp;exact hz2))).mono (by first|exact HL2.out.size|(simp;exact HL2.out.size))
   |exact(HL3.out.setCell (p:=⟨w.heap.size+1,0,none⟩) (by show w.heap.size≤w.heap.size+1;omega) _).setCell (p:=⟨w.heap.size+1,1,none⟩) (by show w.heap.size≤w.heap.size+1;omega) _
end Go.Proofs.YtkplnbjgkhmbcaaGreatDoor
namespace Go.Proofs.YtkplnbjgkhmbcaaGreatDoor
def fdat (b:Nat):Ieee.Datum:=Ieee.double.read b
def fneg (b:Nat):Bool:=decide (9223372036854775808≤b)
theorem sw:Ieee.double.signWeight=9223372036854775808:=by decide
theorem bn:Ieee.double.binade=4503599627370496:=by decide
theorem ir:Ieee.double.infRung=9218868437227405312:=by decide
theorem lp:Ieee.double.leastPlace= -1074:=by decide
theorem neg_eq (b:Nat) (hb:b<18446744073709551616):(b/9223372036854775808%2==1)=fneg b:=by
 unfold fneg
 rw[Bool.eq_iff_iff]
 simp
 omega
theorem fdat_sub (b:Nat) (hb:b<18446744073709551616) (he:b/4503599627370496%2048=0):fdat b= .number (fneg b) (b%4503599627370496) (-1074):=by
 unfold fdat Ieee.Format.read
 simp only[sw,bn,ir,lp]
 rw[if_pos (by omega),neg_eq b hb]
 congr 1
 omega
theorem fdat_norm (b:Nat) (hb:b<18446744073709551616) (he:b/4503599627370496%2048≠0) (he2:b/4503599627370496%2048≠2047):
 fdat b= .number (fneg b) (4503599627370496+b%4503599627370496) ((b/4503599627370496%2048:Nat)-1075):=by
 unfold fdat Ieee.Format.read
 simp only[sw,bn,ir,lp]
 rw[if_neg (by omega),if_pos (by omega),neg_eq b hb]
 congr 1
 ·omega
 ·omega
theorem fdat_inf (b:Nat) (hb:b<18446744073709551616) (he:b/4503599627370496%2048=2047) (hf:b%4503599627370496=0):fdat b= .infinity (fneg b):=by
 unfold fdat Ieee.Format.read
 simp only[sw,bn,ir,lp]
 rw[if_neg (by omega),if_neg (by omega),if_pos (by omega),neg_eq b hb]
theorem fdat_nan (b:Nat) (hb:b<18446744073709551616) (he:b/4503599627370496%2048=2047) (hf:b%4503599627370496≠0): ∃f,fdat b= .nan (fneg b) f:=by
 unfold fdat Ieee.Format.read
 simp only[sw,bn,ir,lp]
 rw[if_neg (by omega),if_neg (by omega),if_neg (by omega),neg_eq b hb]
 exact⟨_,rfl⟩
inductive FCase (b:Nat):Prop where
 |num (s:Bool) (m:Nat) (p:Int) (h:fdat b= .number s m p) (hs:s=fneg b) (hm:m<9007199254740992) (hp: -1074≤p) (hp2:p≤971) (h0:p= -1074∨4503599627370496≤m)
 |inf (s:Bool) (h:fdat b= .infinity s) (hs:s=fneg b)
 |nan (s:Bool) (f:Nat) (h:fdat b= .nan s f)
theorem fcase (b:Nat) (hb:b<18446744073709551616):FCase b:=by
 by_cases he:b/4503599627370496%2048=0
 ·exact .num _ _ _ (fdat_sub b hb he) rfl (by omega) (by omega) (by omega) (Or.inl rfl)
 ·by_cases he2:b/4503599627370496%2048=2047
  ·by_cases hf:b%4503599627370496=0
   ·exact .inf _ (fdat_inf b hb he2 hf) rfl
   ·obtain⟨f,h⟩:=fdat_nan b hb he2 hf
    exact .nan _ f h
  ·exact .num _ _ _ (fdat_norm b hb he he2) rfl (by omega) (by omega) (by omega) (Or.inr (by omega))
def smag (s:Bool) (m:Nat):Int:=if s then-(m:Int) else m
theorem signed_eq (s:Bool) (m u:Nat):Ieee.signed s m u=smag s m*2^u:=by
 unfold Ieee.signed smag
 rw[Nat.shiftLeft_eq]
 cases s
 ·simp
 ·simp[Int.neg_mul]
def f64ord (a b:Nat):Option Ordering:=Ieee.double.order a b
theorem ord_def (a b:Nat):FloatKind.f64.format.order a b=f64ord a b:=rfl
theorem ord_dat (a b:Nat):f64ord a b=(fdat a).order (fdat b):=rfl
theorem cmp_gt_iff (x y:Int):(compare x y== .gt)=decide (y<x):=by
 rw[Bool.eq_iff_iff]
 simp only[compare,compareOfLessAndEq]
 split
 ·simp;omega
 ·split
  ·simp;omega
  ·simp;omega
theorem sgn_of_pos {t:Int} (h:0<t):sgn t=1:=by unfold sgn;rw[if_neg (by omega),if_neg (by omega)]
theorem sgn_of_neg {t:Int} (h:t<0):sgn t= -1:=by unfold sgn;rw[if_pos h]
theorem sgn_zsub (s:Bool) (m:Nat) (P:Int) (h:m≠0):(if s then(1:Int) else-1)=sgn (0*P-smag s m):=by
 rw[Int.zero_mul,Int.zero_sub]
 cases s
 ·exact(sgn_of_neg (show-(m:Int)<0 from by omega)).symm
 ·exact(sgn_of_pos (show 0< -(-(m:Int)) from by omega)).symm
theorem pow2_ge (n:Nat):(1:Int)≤2^n:=by
 have:(0:Int)<2^n:=Int.pow_pos (by omega)
 omega
theorem fmax_dat:fdat 9218868437227405311= .number false 9007199254740991 971:=by
 rw[fdat_norm _ (by omega) (by omega) (by omega)]
 decide
theorem above_max (b:Nat) (hb:b<18446744073709551616):(f64ord b 9218868437227405311==some .gt)=(match fdat b with| .infinity s=>!s|_=>false):=by
 rw[ord_dat,fmax_dat]
 rcases fcase b hb with⟨s,m,p,h,hs,hm,hp,hp2,h0⟩|⟨s,h,hs⟩|⟨s,f,h⟩
 ·rw[h]
  show((some (compare (Ieee.signed s m (p-min p 971).toNat) (Ieee.signed false 9007199254740991 (971-min p 971).toNat))==some Ordering.gt))=false
  rw[Option.some_beq_some,cmp_gt_iff,signed_eq,signed_eq,Int.min_eq_left hp2,Int.sub_self]
  have h1:=pow2_ge (971-p).toNat
  have h2:smag false 9007199254740991*1≤smag false 9007199254740991*2^(971-p).toNat:=Int.mul_le_mul_of_nonneg_left h1 (by decide)
  have h3:smag false 9007199254740991=9007199254740991:=rfl
  have h4:smag s m≤9007199254740991:=by unfold smag;split<;>omega
  rw[h3] at h2⊢
  simp
  omega
 ·rw[h]
  cases s<;>rfl
 ·rw[h];rfl
def icmpF (x:Int) (b:Nat):Int:=
 match fdat b with
 | .nan _ _=> -1
 | .infinity s=>if s then 1 else-1
 | .number s m p=>sgn (x*2^(-p).toNat-smag s m*2^p.toNat)
def fcmpO (o:Option Ordering) (p q:Bool):Int:=
 match o with
 |some .lt=> -1
 |some .eq=>0
 |some .gt=>1
 |none=>if p then(if q then 0 else 1) else-1
def fcmpF (a b:Nat):Int:=fcmpO (f64ord a b) (fdat a).isNaN (fdat b).isNaN
theorem cmp_whole (x:Int) (s:Bool) (m:Nat) (p:Int) (hp:0≤p):sgn (x-smag s m*2^p.toNat)=sgn (x*2^(-p).toNat-smag s m*2^p.toNat):=by
 rw[show(-p).toNat=0 from by omega]
 simp
theorem cmp_small (x:Int) (s:Bool) (m:Nat) (p:Int) (hp:p< -63) (hm:m<9007199254740992):
 (if sgn (x-0)≠0∨m=0 then sgn (x-0) else if s then 1 else-1)=sgn (x*2^(-p).toNat-smag s m*2^p.toNat):=by
 rw[show p.toNat=0 from by omega,Int.sub_zero,Int.pow_zero,Int.mul_one]
 have h64:(18446744073709551616:Int)≤2^(-p).toNat:=by
  obtain⟨c,hc⟩: ∃c,(-p).toNat=64+c:=⟨(-p).toNat-64,by omega⟩
  rw[hc,Int.pow_add]
  have:=pow2_ge c
  have h2:(2:Int)^64=18446744073709551616:=by decide
  rw[h2]
  omega
 obtain⟨P,hP⟩: ∃P:Int,2^(-p).toNat=P:=⟨_,rfl⟩
 rw[hP] at h64⊢
 have hs: -9007199254740992<smag s m∧smag s m<9007199254740992:=by unfold smag;split<;>omega
 by_cases h:x=0
 ·subst h
  by_cases hm0:m=0
  ·subst hm0
   have e:smag s 0=0:=by unfold smag;split<;>rfl
   rw[if_pos (Or.inr rfl),e];simp
  ·rw[if_neg (by simp[sgn,hm0])]
   exact sgn_zsub s m P hm0
 ·rw[if_pos (Or.inl (by rw[Ne,sgn_eq];exact h))]
  rcases Int.lt_or_gt_of_ne h with h1|h1
  ·have h2:x*P≤ -1*P:=Int.mul_le_mul_of_nonneg_right (by omega) (by omega)
   unfold sgn
   rw[if_pos h1,if_pos (by omega)]
  ·have h2:1*P≤x*P:=Int.mul_le_mul_of_nonneg_right (by omega) (by omega)
   unfold sgn
   rw[if_neg (by omega),if_neg (by omega),if_neg (by omega),if_neg (by omega)]
theorem cmp_cut (x:Int) (s:Bool) (m:Nat) (p:Int) (hp:p<0):
 (if sgn (x-smag s (m/2^(-p).toNat))≠0∨m%2^(-p).toNat=0 then sgn (x-smag s (m/2^(-p).toNat)) else if s then 1 else-1)=sgn (x*2^(-p).toNat-smag s m*2^p.toNat):=by
 rw[show p.toNat=0 from by omega,Int.pow_zero,Int.mul_one]
 obtain⟨P,hP⟩: ∃P:Nat,2^(-p).toNat=P:=⟨_,rfl⟩
 have hPi:(2:Int)^(-p).toNat=P:=by rw[←hP];simp
 have hP0:0<P:=by rw[←hP];exact Nat.two_pow_pos _
 rw[hP,hPi]
 obtain⟨q,hq⟩: ∃q,m/P=q:=⟨_,rfl⟩
 obtain⟨r,hr⟩: ∃r,m%P=r:=⟨_,rfl⟩
 have hqr:m=P*q+r:=by rw[←hq,←hr];exact(Nat.div_add_mod m P).symm
 have hrP:r<P:=by rw[←hr];exact Nat.mod_lt _ hP0
 rw[hq,hr]
 have hm:(m:Int)=P*q+r:=by rw[hqr];simp
 have key: ∀y t:Int,sgn (y*P-t)=(if sgn y≠0∨t=0 then sgn y else if t<0 then 1 else-1)→True:=fun _ _ _=>trivial
 have e:x*P-smag s m=(x-smag s q)*P-smag s r:=by
  unfold smag
  cases s
  ·simp only[Bool.false_eq_true,if_false]
   rw[hm,Int.sub_mul,Int.mul_comm (q:Int)];omega
  ·simp only[if_true]
   rw[hm,Int.sub_mul,Int.neg_mul,Int.mul_comm (q:Int)];omega
 rw[e]
 obtain⟨y,hy⟩: ∃y,x-smag s q=y:=⟨_,rfl⟩
 rw[hy]
 have hs: -(P:Int)<smag s r∧smag s r<P:=by unfold smag;split<;>omega
 by_cases hy0:y=0
 ·subst hy0
  by_cases hr0:r=0
  ·subst hr0
   have e0:smag s 0=0:=by unfold smag;split<;>rfl
   rw[if_pos (Or.inr rfl),e0];simp
  ·rw[if_neg (by simp[sgn,hr0])]
   exact sgn_zsub s r P hr0
 ·rw[if_pos (Or.inl (by rw[Ne,sgn_eq];exact hy0))]
  rcases Int.lt_or_gt_of_ne hy0 with h1|h1
  ·have h2:y*P≤ -1*P:=Int.mul_le_mul_of_nonneg_right (by omega) (by omega)
   unfold sgn
   rw[if_pos h1,if_pos (by omega)]
  ·have h2:1*(P:Int)≤y*P:=Int.mul_le_mul_of_nonneg_right (by omega) (by omega)
   unfold sgn
   rw[if_neg (by omega),if_neg (by omega),if_neg (by omega),if_neg (by omega)]
end Go.Proofs.YtkplnbjgkhmbcaaGreatDoor
namespace Go.Proofs.YtkplnbjgkhmbcaaGreatDoor
open Go.RowKit Go.Proofs.YtkplnbjgkhmbcaaGreatDoorW.PrintWords Go.Proofs.YtkplnbjgkhmbcaaGreatDoorW.PrintLast Go.Proofs.YtkplnbjgkhmbcaaGreatDoorW.PrintMore Go.Proofs.YtkplnbjgkhmbcaaGreatDoor.PFnCompare Go.Proofs.YtkplnbjgkhmbcaaGreatDoor.PCmp Go.Proofs.YtkplnbjgkhmbcaaGreatDoor.PbytesOf
set_option linter.unusedVariables false
set_option linter.unusedSimpArgs false
theorem call_bits (b:Nat) (w:World):(callFunc 110 #[.float .f64 b]).run Tryz.prog w= .ok (.value (.int .u64 b)) w:=
 (run_callFunc_extern (e:=Extern.MathFloatBits.float64bits) Tryz.func110 (by kernel_rfl) (by kernel_rfl) (by kernel_rfl) (by kernel_rfl) _ w).trans rfl
theorem call_float (n:Int) (w:World):(callFunc 79 #[.int .u64 n]).run Tryz.prog w= .ok (.value (.float .f64 n.toNat)) w:=
 (run_callFunc_extern (e:=Extern.MathFloatBits.float64frombits) Tryz.func79 (by kernel_rfl) (by kernel_rfl) (by kernel_rfl) (by kernel_rfl) _ w).trans rfl
theorem ord_self (b:Nat):(f64ord b b !=some .eq)=(fdat b).isNaN:=by
 rw[ord_dat]
 cases fdat b with
 |number s m p=>
  show(some (compare _ _) !=some Ordering.eq)=false
  simp
 |infinity s=>
  show(some (compare _ _) !=some Ordering.eq)=false
  simp
 |nan s f=>rfl
set_option maxRecDepth 100000 in
theorem isNaN_c (b:Nat) (w:World):Calls Tryz.prog 43 #[.float .f64 b] w fun e w'=>e= .returned (.bool (fdat b).isNaN)∧w'=w:=by
 go_enter Tryz.func43,Tryz.ntmps43
 go_wp2
 go_ret
 exact⟨congrArg (fun z=>Ending.returned (.bool z)) (ord_self b),rfl⟩
def finf (s:Bool) (b:Nat):Bool:=match fdat b with| .infinity t=>t==s|_=>false
theorem read_neg (b:Nat) (hb:b<18446744073709551616):fdat (b^^^9223372036854775808)=(fdat b).opposite∧b^^^9223372036854775808<18446744073709551616:=by
 have e1:(b^^^9223372036854775808)%9223372036854775808=b%9223372036854775808:=by
  have:=Nat.xor_mod_two_pow (a:=b) (b:=9223372036854775808) (n:=63)
  simpa using this
 have e2:(b^^^9223372036854775808)/9223372036854775808=(b/9223372036854775808)^^^1:=by
  have:=Nat.shiftRight_xor_distrib (a:=b) (b:=9223372036854775808) (i:=63)
  simpa [Nat.shiftRight_eq_div_pow] using this
 have h01:b/9223372036854775808=0∨b/9223372036854775808=1:=by omega
 have e3:(b^^^9223372036854775808)/9223372036854775808=1-b/9223372036854775808:=by
  rw[e2]
  rcases h01 with h|h<;>rw[h]<;>rfl
 refine⟨?_,by omega⟩
 unfold fdat Ieee.Format.read
 simp only[sw,bn,ir,lp]
 rw[e1,e3]
 have e4:((1-b/9223372036854775808)%2==1)=!(b/9223372036854775808%2==1):=by
  rcases h01 with h|h<;>rw[h]<;>rfl
 rw[e4]
 split
 ·rfl
 ·split
  ·rfl
  ·split<;>rfl
set_option maxRecDepth 100000 in
theorem isInfP_c (b:Nat) (w:World) (hb:b<18446744073709551616):Calls Tryz.prog 62 #[.float .f64 b, .int .i64 1] w fun e w'=>e= .returned (.bool (finf false b))∧w'=w:=by
 have H:Hid ((f64ord b 9218868437227405311==some .gt)=finf false b):=by
  refine Lib.hid ?_
  rw[above_max b hb]
  unfold finf
  cases fdat b with
  |infinity s=>cases s<;>rfl
  |number _ _ _=>rfl
  |nan _ _=>rfl
 clear hb
 go_enter Tryz.func62,Tryz.ntmps62
 go_wp2
 go_ret
 exact⟨congrArg (fun z=>Ending.returned (.bool z)) H.out,rfl⟩
set_option maxRecDepth 100000 in
theorem isInfN_c (b:Nat) (w:World) (hb:b<18446744073709551616):Calls Tryz.prog 62 #[.float .f64 b, .int .i64 (-1)] w fun e w'=>e= .returned (.bool (finf true b))∧w'=w:=by
 have H:Hid ((f64ord (Op.negFloat .f64 b) 9218868437227405311==some .gt)=finf true b):=by
  refine Lib.hid ?_
  obtain⟨h1,h2⟩:=read_neg b hb
  have e:Op.negFloat .f64 b=b^^^9223372036854775808:=rfl
  rw[e,above_max _ h2,h1]
  unfold finf
  cases fdat b with
  |infinity s=>cases s<;>rfl
  |number _ _ _=>rfl
  |nan _ _=>rfl
 clear hb
 have hneg:Op.unary .neg (.float .f64 b)=pure (.float .f64 (Op.negFloat .f64 b)):=rfl
 go_enter Tryz.func62,Tryz.ntmps62
 go_wp2
 go_ret
 exact⟨congrArg (fun z=>Ending.returned (.bool z)) H.out,rfl⟩
set_option maxRecDepth 100000 in
theorem fl_c (k bits:Int) (n:Bool) (txt:ByteArray) (A2 A5:Option Addr) (n2 c2 n5 c5:Nat) (w:World):
 Calls Tryz.prog 44 #[.agg #[.int .i64 k, .bool n, .slice A2 n2 c2, .int .u64 bits, .string txt, .slice A5 n5 c5]] w fun e w'=>e= .returned (.float .f64 bits.toNat)∧Below w.heap.size w w':=by
 have hc:=call_float bits
 go_enter Tryz.func44,Tryz.ntmps44
 go_wp2
 exact bodyPost_ret (v:= .float .f64 bits.toNat) (by simp[results,Tryz.results44,go_sem]) rfl ⟨rfl,(Below.refl _ _).alloc (Nat.le_refl _) _⟩
set_option maxRecDepth 100000 in
theorem cmpFloats_c (a b:Nat) (w:World):Calls Tryz.prog 68 #[.float .f64 a, .float .f64 b] w fun e w'=>e= .returned (.int .i64 (fcmpF a b))∧w'=w:=by
 have hn: ∀x,(fdat x).isNaN=true→f64ord a b=none∨ ¬(x=a∨x=b):=by
  intro x hx
  by_cases h:x=a∨x=b
  ·left
   rw[ord_dat]
   rcases h with rfl|rfl
   ·cases h:fdat x<;>simp[h,Ieee.Datum.isNaN] at hx;rfl
   ·cases h:fdat x<;>simp[h,Ieee.Datum.isNaN] at hx
    cases fdat a<;>rfl
  ·exact Or.inr h
 have hno:f64ord a b=none→(fdat a).isNaN=true∨(fdat b).isNaN=true:=by
  intro h
  rw[ord_dat] at h
  cases ha:fdat a<;>cases hb:fdat b<;>rw[ha,hb] at h<;>simp[Ieee.Datum.order,Ieee.Datum.isNaN] at h⊢
 obtain⟨p,hp⟩: ∃p,(fdat a).isNaN=p:=⟨_,rfl⟩
 obtain⟨q,hq⟩: ∃q,(fdat b).isNaN=q:=⟨_,rfl⟩
 have HA:=Lib.hid (fun w=>isNaN_c a w)
 have HB:=Lib.hid (fun w=>isNaN_c b w)
 rw[hp] at HA
 rw[hq] at HB
 have h1:=hn a
 have h2:=hn b
 rw[hp] at h1 hno
 rw[hq] at h2 hno
 obtain⟨o,ho⟩: ∃o,f64ord a b=o:=⟨_,rfl⟩
 have HF:Hid (fcmpF a b=fcmpO o p q):=by
  refine Lib.hid ?_
  unfold fcmpF
  rw[ho,hp,hq]
 have hod:FloatKind.f64.format.order a b=o:=ho
 rw[ho] at h1 h2 hno
 rw[HF.out]
 clear HF hn hp hq ho
 cases p<;>cases q
 all_goals
  simp at h1 h2 hno
 ·rcases o with _|o
  ·exact absurd rfl hno
  ·clear h1 h2 hno
   cases o
   all_goals
    go_enter Tryz.func68,Tryz.ntmps68
    go_wp2_with (go_at_call 43;first|(refine(HA.out _).mono ?_;rintro e w' ⟨rfl,rfl⟩)|(refine(HB.out _).mono ?_;rintro e w' ⟨rfl,rfl⟩))
    go_ret
    exact⟨rfl,rfl⟩
 all_goals
  obtain rfl:o=none:=by first|exact h1|exact h2
  clear h1 h2 hno
  go_enter Tryz.func68,Tryz.ntmps68
  go_wp2_with (go_at_call 43;first|(refine(HA.out _).mono ?_;rintro e w' ⟨rfl,rfl⟩)|(refine(HB.out _).mono ?_;rintro e w' ⟨rfl,rfl⟩))
  go_ret
  exact⟨rfl,rfl⟩
def partM (b:Nat):Nat:=if b/4503599627370496%2048=0 then b%4503599627370496 else 4503599627370496+b%4503599627370496
def partP (b:Nat):Int:=if b/4503599627370496%2048=0 then-1074 else(b/4503599627370496%2048:Nat)-1075
theorem part_num (b:Nat) (s:Bool) (m:Nat) (p:Int) (hb:b<18446744073709551616) (h:fdat b= .number s m p):s=fneg b∧m=partM b∧p=partP b:=by
 unfold partM partP
 by_cases he:b/4503599627370496%2048=0
 ·rw[fdat_sub b hb he] at h
  simp only[Ieee.Datum.number.injEq] at h
  rw[if_pos he,if_pos he]
  exact⟨h.1.symm,h.2.1.symm,h.2.2.symm⟩
 ·by_cases he2:b/4503599627370496%2048=2047
  ·by_cases hf:b%4503599627370496=0
   ·rw[fdat_inf b hb he2 hf] at h;cases h
   ·obtain⟨f,hn⟩:=fdat_nan b hb he2 hf
    rw[hn] at h;cases h
  ·rw[fdat_norm b hb he he2] at h
   simp only[Ieee.Datum.number.injEq] at h
   rw[if_neg he,if_neg he]
   exact⟨h.1.symm,h.2.1.symm,h.2.2.symm⟩
theorem and_mask (b n:Nat) (hb:b<18446744073709551616) (hn:n<64):Go.bits .and .u64 (b:Int) ((2^n-1:Nat):Int)=((b%2^n:Nat):Int):=by
 have h:2^n≤2^63:=Nat.pow_le_pow_right (by omega) (by omega)
 rw[u64_and_nat b (2^n-1) hb (by omega),Nat.and_two_pow_sub_one_eq_mod]
theorem or_high (f n:Nat) (hf:f<2^n) (hn:n<64):Go.bits .or .u64 (f:Int) ((2^n:Nat):Int)=((2^n+f:Nat):Int):=by
 have h:2^n≤2^63:=Nat.pow_le_pow_right (by omega) (by omega)
 rw[u64_or_nat f (2^n) (by omega) (by omega),Nat.or_comm]
 have:=Nat.two_pow_add_eq_or_of_lt hf 1
 rw[Nat.mul_one] at this
 rw[this]
set_option maxRecDepth 100000 in
set_option maxHeartbeats 1000000 in
theorem floatParts_c (b:Nat) (w:World) (hb:b<18446744073709551616):
 Calls Tryz.prog 142 #[.float .f64 b] w fun e w'=>e= .returned (.tuple #[.bool (fneg b), .int .u64 (partM b), .int .i64 (partP b)])∧w'=w:=by
 have hc:=call_bits b
 have e1:Go.bits .and .u64 ((b:Int)/4503599627370496) 2047=((b/4503599627370496%2048:Nat):Int):=by
  have:=and_mask (b/4503599627370496) 11 (by omega) (by omega)
  exact this
 have e2:Go.bits .and .u64 (b:Int) 4503599627370495=((b%4503599627370496:Nat):Int):=and_mask b 52 hb (by omega)
 have e3:Go.bits .or .u64 ((b%4503599627370496:Nat):Int) 4503599627370496=((4503599627370496+b%4503599627370496:Nat):Int):=or_high (b%4503599627370496) 52 (by omega) (by omega)
 have HN:Hid (((b:Int)/9223372036854775808==1)=fneg b):=by
  refine Lib.hid ?_
  unfold fneg
  rw[Bool.eq_iff_iff]
  simp
  omega
 have HM:Hid (partM b=if b/4503599627370496%2048=0 then b%4503599627370496 else 4503599627370496+b%4503599627370496):=rfl
 have HP:Hid (partP b=if b/4503599627370496%2048=0 then(-1074:Int) else((b/4503599627370496%2048:Nat):Int)-1075):=rfl
 obtain⟨e,he⟩: ∃e,b/4503599627370496%2048=e:=⟨_,rfl⟩
 obtain⟨f,hf⟩: ∃f,b%4503599627370496=f:=⟨_,rfl⟩
 have he9:e<2048:=by omega
 have hf9:f<4503599627370496:=by omega
 rw[he,hf] at HM
 rw[he] at HP
 rw[he] at e1
 rw[hf] at e2 e3
 have e3':Go.bits .or .u64 (f:Int) 4503599627370496=4503599627370496+(f:Int):=e3.trans (Int.natCast_add _ _)
 clear e3
 obtain⟨M,hM⟩: ∃M,partM b=M:=⟨_,rfl⟩
 obtain⟨P,hP⟩: ∃P,partP b=P:=⟨_,rfl⟩
 rw[hM] at HM⊢
 rw[hP] at HP⊢
 clear he hf hM hP hb
 by_cases h0:e=0
 ·subst h0
  go_enter Tryz.func142,Tryz.ntmps142
  go_wp2
  refine bodyPost_ret (v:= .tuple #[.bool ((b:Int)/9223372036854775808==1), .int .u64 f, .int .i64 (-1074)]) (by simp[results,Tryz.results142,go_sem]) rfl ⟨?_,rfl⟩
  rw[HN.out,HM.out,HP.out];rfl
 ·have hbz:((e:Int)==0)=false:=by simp;omega
  go_enter Tryz.func142,Tryz.ntmps142
  go_wp2
  refine bodyPost_ret (v:= .tuple #[.bool ((b:Int)/9223372036854775808==1), .int .u64 (4503599627370496+f), .int .i64 ((e:Int)-1075)]) (by simp[results,Tryz.results142,go_sem]) rfl ⟨?_,rfl⟩
  rw[HN.out,HM.out,HP.out,if_neg h0,if_neg h0]
  rfl
theorem two_drop (k:Nat) (h:k<64):(2:Int)^k≤9223372036854775808:=by
 have:2^k≤2^63:=Nat.pow_le_pow_right (by omega) (by omega)
 have h:=Int.ofNat_le.2 this
 simpa using h
def Whl (s:Bool) (m:Nat) (p:Int) (x:Int) (all:Bool):Prop:=
 (0≤p→x=smag s m*2^p.toNat∧all=true)∧(p< -63→x=0∧all=(m==0))∧(-63≤p→p<0→x=smag s (m/2^(-p).toNat)∧all=(m%2^(-p).toNat==0))
set_option maxRecDepth 100000 in
set_option maxHeartbeats 2000000 in
theorem whole2_c (b:Nat) (w:World) (hb:b<18446744073709551616) (s:Bool) (m:Nat) (p:Int) (hd:fdat b= .number s m p):
 Calls Tryz.prog 106 #[.float .f64 b] w fun e w'=> ∃A c n l all,e= .returned (.tuple #[.agg #[.bool n, .slice A l.length c], .bool all])∧Sl .u8 w.heap.size w' (.slice A l.length c) l∧Good n l∧Whl s m p (val n l) all∧l.length≤200∧Below w.heap.size w w':=by
 obtain⟨e1,e2,e3⟩:=part_num b s m p hb hd
 have hm:m<9007199254740992∧ -1074≤p∧p≤971:=by
  rcases fcase b hb with⟨s',m',p',h,hs,hm,hp,hp2,h0⟩|⟨s',h,hs⟩|⟨s',f,h⟩
  ·rw[hd] at h
   simp only[Ieee.Datum.number.injEq] at h
   obtain⟨rfl,rfl,rfl⟩:=h
   exact⟨hm,hp,hp2⟩
  ·rw[hd] at h;cases h
  ·rw[hd] at h;cases h
 have HP:=Lib.hid (fun w=>floatParts_c b w hb)
 rw[←e1,←e2,←e3] at HP
 clear e1 e2 e3 hd hb
 obtain⟨hm1,hm2,hm3⟩:=hm
 have h8:=bytes8_bytes m (by omega)
 have h8n:=bytes8_num m (by omega) (by omega)
 have hl8:(bytes8 m).length=8:=rfl
 have HG:=Lib.hid (good_of s (bytes8 m) h8 (by rw[hl8];omega))
 have HV:=Lib.hid ((val_of s (bytes8 m) h8).trans (show val s (bytes8 m)=smag s m from by unfold val smag;rw[h8n]))
 have hcl:=cutL_length (bytes8 m)
 rw[hl8] at hcl
 have HC:=Lib.hid hcl
 clear h8 h8n hcl
 obtain⟨W,hW⟩: ∃W,W=w.alloc (.cells #[.bool false, .slice none 0 0] 54):=⟨_,rfl⟩
 have HK:Hid (W.heap[w.heap.size]?=some (.cells #[.bool false, .slice none 0 0] 54 (0,0))):=by rw[hW];exact blk_new _ _
 have HL:Hid (Below w.heap.size w W):=by rw[hW];exact(Below.refl _ _).alloc (Nat.le_refl _) _
 have HZ:Hid (W.heap.size=w.heap.size+1):=by rw[hW];refine Lib.hid ?_;simp
 have HO:Hid (∀(u:Int) (W:World),W.heap[w.heap.size]?=some (.cells #[.bool false, .slice none 0 0] 54 (0,0))→Below w.heap.size w W→Calls Tryz.prog 127 #[.int .u64 u] W fun e w1=> ∃A1 c1,e= .returned (.slice A1 8 c1)∧Sl .u8 W.heap.size w1 (.slice A1 8 c1) (bytes8 u)∧w1.heap[w.heap.size]?=some (.cells #[.bool false, .slice none 0 0] 54 (0,0))∧Below w.heap.size w w1):=by
  intro u W hk hl
  refine(bytesOf_c u W).mono ?_
  rintro e w1 ⟨v1,rfl,hs,hb⟩
  obtain⟨A1,c1,rfl,_⟩:=hs.c
  exact⟨A1,c1,rfl,hs,blk_below hk hb,hl.trans (hb.mono hl.size)⟩
 have HOf:Hid (∀(neg:Bool) (l:List Int) (A1:Option Addr) (c1 B:Nat) (W:World),Sl .u8 B W (.slice A1 8 c1) l→l.length=8→W.heap[w.heap.size]?=some (.cells #[.bool false, .slice none 0 0] 54 (0,0))→Below w.heap.size w W→Calls Tryz.prog 24 #[.bool neg, .slice A1 8 c1] W fun e w1=> ∃A2 c2,e= .returned (.agg #[.bool (neg&&decide (0<(cutL l).length)), .slice A2 (cutL l).length c2])∧Sl .u8 (w.heap.size+1) w1 (.slice A2 (cutL l).length c2) (cutL l)∧w1.heap[w.heap.size]?=some (.cells #[.bool false, .slice none 0 0] 54 (0,0))∧Below w.heap.size w w1):=by
  intro neg l A1 c1 B W hs h8 hk hl
  refine(of_c neg B _ l W hs (by omega)).mono ?_
  rintro e w1 ⟨v1,rfl,⟨s2,rfl,hs2⟩,hb⟩
  obtain⟨A2,c2,rfl,_⟩:=hs2.c
  exact⟨A2,c2,rfl,hs2.mono (blk_lt hk),blk_below hk hb,hl.trans (hb.mono hl.size)⟩
 rcases Int.lt_or_le p 0 with hp|hp
 ·rcases Int.lt_or_le p (-63) with hp2|hp2
  ·go_enter Tryz.func106,Tryz.ntmps106
   go_wp2_with (first|(go_at_call 142;refine(HP.out _).mono ?_;rintro e w' ⟨rfl,rfl⟩)|(go_at_call 127;rw[←hW];refine(HO.out _ _ HK.out HL.out).mono ?_;rintro e w1 ⟨A1,c1,rfl,hs1,hk1,hl1⟩;have HS1:=Lib.hid hs1;have HK1:=Lib.hid hk1;have HL1:=Lib.hid hl1;clear hs1 hk1 hl1)|(go_at_call 24;refine(HOf.out _ _ _ _ _ _ HS1.out hl8 HK1.out HL1.out).mono ?_;rintro e w2 ⟨A2,c2,rfl,hs2,hk2,hl2⟩;have HS2:=Lib.hid hs2;have HK2:=Lib.hid hk2;have HL2:=Lib.hid hl2;obtain⟨q0,q1,f0,f1⟩:=cells2 hk2;have hlt:=blk_lt hk2;clear hs2 hk2 hl2))
   refine bodyPost_ret (v:= .tuple #[.agg #[.bool false, .slice none 0 0], .bool ((m:Int)==0)]) (by simp[results,Tryz.results106,go_sem,q0,q1,hlt]) rfl ⟨none,0,false,[],_,rfl,Sl.nil,⟨fun x hx=>(by cases hx),fun x r h=>(by cases h),fun _=>rfl,by simp⟩,⟨fun h=>by omega,fun _=>⟨rfl,?_⟩,fun h=>by omega⟩,by simp,?_⟩
   ·rw[Bool.eq_iff_iff];simp
   ·exact((HL2.out.setCell (Nat.le_refl _) _).setCell (Nat.le_refl _) _).alloc (by simp[World.setCell];omega) _
  ·obtain⟨k,hk⟩: ∃k,(-p).toNat=k:=⟨_,rfl⟩
   have hkp: -p=(k:Int):=by omega
   have hk1:1≤k∧k≤63:=by omega
   go_enter Tryz.func106,Tryz.ntmps106
   go_upto_region 7 with(first|(go_at_call 142;refine(HP.out _).mono ?_;rintro e w' ⟨rfl,rfl⟩)|(go_at_call 127;rw[←hW];refine(HO.out _ _ HK.out HL.out).mono ?_;rintro e w1 ⟨A1,c1,rfl,hs1,hk1,hl1⟩;have HS1:=Lib.hid hs1;have HK1:=Lib.hid hk1;have HL1:=Lib.hid hl1;clear hs1 hk1 hl1)|(go_at_call 24;refine(HOf.out _ _ _ _ _ _ HS1.out hl8 HK1.out HL1.out).mono ?_;rintro e w2 ⟨A2,c2,rfl,hs2,hk2,hl2⟩;have HS2:=Lib.hid hs2;have HK2:=Lib.hid hk2;have HL2:=Lib.hid hl2;obtain⟨q0,q1,f0,f1⟩:=cells2 hk2;have hlt:=blk_lt hk2;clear hs2 hk2 hl2))
   have HK3:Hid ((w2.alloc (.cells #[.bool (s&&decide (0<(cutL (bytes8 m)).length)), .slice A2 (cutL (bytes8 m)).length c2] 54)).heap[w.heap.size]?=some (.cells #[.bool false, .slice none 0 0] 54 (0,0))):=blk_alloc HK2.out _
   have HL3:Hid (Below w.heap.size w (w2.alloc (.cells #[.bool (s&&decide (0<(cutL (bytes8 m)).length)), .slice A2 (cutL (bytes8 m)).length c2] 54))):=HL2.out.alloc HL2.out.size _
   have h8q:=bytes8_bytes (((m/2^k:Nat):Int)) (Int.natCast_nonneg _)
   have hmk:((m:Int)/2^k)=((m/2^k:Nat):Int):=by simp
   have hqm:m/2^k≤m:=Nat.div_le_self _ _
   have h8n:=bytes8_num (((m/2^k:Nat):Int)) (Int.natCast_nonneg _) (Int.lt_of_le_of_lt (Int.ofNat_le.2 hqm) (by omega))
   have HG2:=Lib.hid (good_of s _ h8q (by show 8<_;omega))
   have HV2:=Lib.hid ((val_of s _ h8q).trans (show val s (bytes8 ((m/2^k:Nat):Int))=smag s (m/2^k) from by unfold val smag;rw[h8n]))
   have HC2:=Lib.hid (cutL_length (bytes8 ((m/2^k:Nat):Int)))
   rw[←hmk] at HG2 HV2 HC2
   clear h8q hmk h8n hqm
   have hpk:=two_drop k (by omega)
   have hpk1:=pow2_ge k
   have eand:Go.bits .and .u64 (m:Int) (IntKind.u64.wrap (IntKind.u64.wrap (2^k)-1))=((m%2^k:Nat):Int):=by
    have e0:IntKind.u64.wrap (IntKind.u64.wrap (2^k)-1)=((2^k-1:Nat):Int):=by
     have e1:((2^k-1:Nat):Int)=2^k-1:=by
      rw[Int.ofNat_sub (Nat.one_le_two_pow)]
      simp
     rw[e1]
     simp only[IntKind.wrap,IntKind.signed,IntKind.bits]
     simp
     omega
    rw[e0]
    exact and_mask m k (by omega) (by omega)
   clear hpk hpk1
   obtain⟨R,hR⟩: ∃R:Nat,m%2^k=R:=⟨_,rfl⟩
   rw[hR] at eand
   have HR:=Lib.hid hR
   clear hR
   obtain⟨Q,hQ⟩: ∃Q:Int,(m:Int)/2^k=Q:=⟨_,rfl⟩
   have HQ:=Lib.hid hQ
   rw[hQ] at HG2 HV2 HC2
   go_wp2_with (first|(go_at_call 127;refine(HO.out _ _ HK3.out HL3.out).mono ?_;rintro e w4 ⟨A4,c4,rfl,hs4,hk4,hl4⟩;have HS4:=Lib.hid hs4;have HK4:=Lib.hid hk4;have HL4:=Lib.hid hl4;clear hs4 hk4 hl4)|(go_at_call 24;refine(HOf.out _ _ _ _ _ _ HS4.out rfl HK4.out HL4.out).mono ?_;rintro e w5 ⟨A5,c5,rfl,hs5,hk5,hl5⟩;have HS5:=Lib.hid hs5;have HL5:=Lib.hid hl5;obtain⟨z0,z1,g0,g1⟩:=cells2 hk5;have hlt5:=blk_lt hk5;clear hs5 hk5 hl5))
   refine bodyPost_ret (v:= .tuple #[.agg #[.bool (s&&decide (0<(cutL (bytes8 Q)).length)), .slice A5 (cutL (bytes8 Q)).length c5], .bool ((R:Int)==0)]) (by simp[results,Tryz.results106,go_sem,z0,z1,hlt5]) rfl ⟨_,_,_,_,_,rfl,?_,HG2.out,⟨fun h=>by omega,fun h=>by omega,fun _ _=>?_⟩,?_,?_⟩
   ·exact((HS5.out.setCell (p:=⟨w.heap.size,0,none⟩) _ (by show w.heap.size<_;omega)).setCell (p:=⟨w.heap.size,1,none⟩) _ (by show w.heap.size<_;omega)).mono (by omega)
   ·rw[hk,HR.out,HV2.out]
    refine⟨rfl,?_⟩
    rw[Bool.eq_iff_iff];simp
   ·have h1:=HC2.out
    have h2:(bytes8 Q).length=8:=rfl
    omega
   ·exact(HL5.out.setCell (Nat.le_refl _) _).setCell (Nat.le_refl _) _
 ·go_enter Tryz.func106,Tryz.ntmps106
  go_upto_region 4 with(first|(go_at_call 142;refine(HP.out _).mono ?_;rintro e w' ⟨rfl,rfl⟩)|(go_at_call 127;rw[←hW];refine(HO.out _ _ HK.out HL.out).mono ?_;rintro e w1 ⟨A1,c1,rfl,hs1,hk1,hl1⟩;have HS1:=Lib.hid hs1;have HK1:=Lib.hid hk1;have HL1:=Lib.hid hl1;clear hs1 hk1 hl1)|(go_at_call 24;refine(HOf.out _ _ _ _ _ _ HS1.out hl8 HK1.out HL1.out).mono ?_;rintro e w2 ⟨A2,c2,rfl,hs2,hk2,hl2⟩;have HS2:=Lib.hid hs2;have HK2:=Lib.hid hk2;have HL2:=Lib.hid hl2;obtain⟨q0,q1,f0,f1⟩:=cells2 hk2;have hlt:=blk_lt hk2;clear hs2 hk2 hl2))
  have HK3:Hid ((w2.alloc (.cells #[.bool (s&&decide (0<(cutL (bytes8 m)).length)), .slice A2 (cutL (bytes8 m)).length c2] 54)).heap[w.heap.size]?=some (.cells #[.bool false, .slice none 0 0] 54 (0,0))):=blk_alloc HK2.out _
  have HL3:Hid (Below w.heap.size w (w2.alloc (.cells #[.bool (s&&decide (0<(cutL (bytes8 m)).length)), .slice A2 (cutL (bytes8 m)).length c2] 54))):=HL2.out.alloc HL2.out.size _
  obtain⟨k,hk⟩: ∃k:Nat,p=(k:Int):=⟨p.toNat,by omega⟩
  subst hk
  go_wp2_with (go_at_call 143;refine(lsh_c _ _ _ _ k _ ⟨_,rfl,HS2.out.alloc _⟩ HG.out (by have:=HC.out;omega) (by omega)).mono ?_;rintro e w4 ⟨A4,c4,n4,l4,rfl,hs4,hg4,hv4,hl4,hb4⟩;have HS4:=Lib.hid hs4;have HG4:=Lib.hid (And.intro hg4 (And.intro hv4 hl4));have HB4:=Lib.hid hb4;obtain⟨z0,z1,g0,g1⟩:=cells2 (blk_below HK3.out hb4);clear hs4 hg4 hv4 hl4 hb4)
  refine bodyPost_ret (v:= .tuple #[.agg #[.bool n4, .slice A4 l4.length c4], .bool true]) (by simp[results,Tryz.results106,go_sem,z0,z1]) rfl ⟨_,_,n4,l4,true,rfl,?_,HG4.out.1,⟨fun _=>⟨by rw[HG4.out.2.1,HV.out];simp,rfl⟩,fun h=>by omega,fun _ h=>by omega⟩,by have h1:=HG4.out.2.2;have h2:=HC.out;omega,?_⟩
  ·exact((HS4.out.setCell (p:=⟨w.heap.size,0,none⟩) _ (by show w.heap.size<_;simp;omega)).setCell (p:=⟨w.heap.size,1,none⟩) _ (by show w.heap.size<_;simp;omega)).mono (by simp;omega)
  ·exact((HL3.out.trans (HB4.out.mono HL3.out.size)).setCell (Nat.le_refl _) _).setCell (Nat.le_refl _) _
theorem cmp_lt_iff (x y:Int):(compare x y== .lt)=decide (x<y):=by
 rw[Bool.eq_iff_iff]
 simp only[compare,compareOfLessAndEq]
 split
 ·simp;omega
 ·split
  ·simp;omega
  ·simp;omega
theorem fzero:fdat 0= .number false 0 (-1074):=by decide
theorem below_zero (b:Nat) (s:Bool) (m:Nat) (p:Int) (h:fdat b= .number s m p):(f64ord b 0==some .lt)=(s&&decide (m≠0)):=by
 rw[ord_dat,fzero,h]
 show((some (compare (Ieee.signed s m (p-min p (-1074)).toNat) (Ieee.signed false 0 (-1074-min p (-1074)).toNat))==some Ordering.lt))=_
 rw[Option.some_beq_some,cmp_lt_iff,signed_eq,signed_eq]
 have h1:=pow2_ge (p-min p (-1074)).toNat
 obtain⟨P,hP⟩: ∃P:Int,2^(p-min p (-1074)).toNat=P:=⟨_,rfl⟩
 rw[hP] at h1⊢
 have h2:smag false 0=0:=rfl
 rw[h2,Int.zero_mul]
 rw[Bool.eq_iff_iff]
 simp
 cases s
 ·have h3:smag false m=(m:Int):=rfl
  rw[h3]
  have:=Int.mul_nonneg (Int.natCast_nonneg m) (by omega:0≤P)
  simp;omega
 ·have h3:smag true m= -(m:Int):=rfl
  rw[h3,Int.neg_mul]
  by_cases hm:m=0
  ·subst hm;simp
  ·have:=Int.mul_le_mul_of_nonneg_left h1 (Int.natCast_nonneg m)
   simp[hm];omega
theorem whl_cmp (x y:Int) (s:Bool) (m:Nat) (p:Int) (all:Bool) (h:Whl s m p y all) (hm:m<9007199254740992):
 (if sgn (x-y)≠0∨all=true then sgn (x-y) else if(s&&decide (m≠0))=true then 1 else-1)=sgn (x*2^(-p).toNat-smag s m*2^p.toNat):=by
 obtain⟨h1,h2,h3⟩:=h
 rcases Int.lt_or_le p 0 with hp|hp
 ·rcases Int.lt_or_le p (-63) with hp2|hp2
  ·obtain⟨rfl,rfl⟩:=h2 hp2
   rw[←cmp_small x s m p hp2 hm]
   by_cases h0:m=0
   ·rw[if_pos (Or.inr (by simp[h0])),if_pos (Or.inr h0)]
   ·by_cases hc:sgn (x-0)≠0
    ·rw[if_pos (Or.inl hc),if_pos (Or.inl hc)]
    ·have hc':=Decidable.not_not.1 hc
     rw[hc']
     simp[h0]
  ·obtain⟨rfl,rfl⟩:=h3 hp2 hp
   rw[←cmp_cut x s m p hp]
   by_cases h0:m%2^(-p).toNat=0
   ·rw[if_pos (Or.inr (by simp[h0])),if_pos (Or.inr h0)]
   ·have hm0:m≠0:=by rintro rfl;simp at h0
    by_cases hc:sgn (x-smag s (m/2^(-p).toNat))≠0
    ·rw[if_pos (Or.inl hc),if_pos (Or.inl hc)]
    ·have hc':=Decidable.not_not.1 hc
     rw[hc']
     simp[h0,hm0]
 ·obtain⟨rfl,rfl⟩:=h1 hp
  rw[if_pos (Or.inr rfl),cmp_whole x s m p hp]
set_option maxRecDepth 100000 in
set_option maxHeartbeats 2000000 in
theorem cmpFloat_c (B:Nat) (v:Value) (n:Bool) (l:List Int) (b:Nat) (w:World) (h:SInt B w v n l) (hg:Good n l) (hb:b<18446744073709551616):
 Calls Tryz.prog 67 #[v, .float .f64 b] w fun e w'=>e= .returned (.int .i64 (icmpF (val n l) b))∧Below w.heap.size w w':=by
 have HN:=Lib.hid (fun w=>isNaN_c b w)
 have HP:=Lib.hid (fun w=>isInfP_c b w hb)
 have HM:=Lib.hid (fun w=>isInfN_c b w hb)
 have HB0:Hid (∀o,Below w.heap.size w (w.alloc o)):=fun o=>(Below.refl _ _).alloc (Nat.le_refl _) o
 rcases fcase b hb with⟨s,m,p,hd,hs,hm,hp,hp2,h0⟩|⟨s,hd,hs⟩|⟨s,f,hd⟩
 ·have h1:(fdat b).isNaN=false:=by rw[hd];rfl
  have h2:finf false b=false:=by unfold finf;rw[hd]
  have h3:finf true b=false:=by unfold finf;rw[hd]
  rw[h1] at HN
  rw[h2] at HP
  rw[h3] at HM
  have HW:=Lib.hid (fun w=>whole2_c b w hb s m p hd)
  have HZ:=Lib.hid (below_zero b s m p hd)
  have HI:Hid (icmpF (val n l) b=sgn (val n l*2^(-p).toNat-smag s m*2^p.toNat)):=by
   refine Lib.hid ?_;unfold icmpF;rw[hd]
  have HMM:=Lib.hid (And.intro hm (And.intro hp hp2))
  have H:=Lib.hid h
  obtain⟨s1,rfl,hs1⟩:=h
  obtain⟨A1,c1,rfl,_⟩:=hs1.c
  have HG:=Lib.hid hg
  clear h1 h2 h3 hd hs hm hp hp2 h0 hb hs1 hg
  obtain⟨t,ht⟩: ∃t,(f64ord b 0==some .lt)=t:=⟨_,rfl⟩
  have hord:(FloatKind.f64.format.order b 0==some Ordering.lt)=t:=ht
  have HT:=Lib.hid ht
  clear ht
  obtain⟨r,hr⟩: ∃r,sgn (val n l*2^(-p).toNat-smag s m*2^p.toNat)=r:=⟨_,rfl⟩
  rw[hr] at HI
  rw[HI.out]
  have HRR:=Lib.hid hr
  clear hr HI
  go_enter Tryz.func67,Tryz.ntmps67
  go_upto_region 7 with(first|(go_at_call 43;refine(HN.out _).mono ?_;rintro e w' ⟨rfl,rfl⟩)|(go_at_call 62;first|((with_reducible refine(HP.out _).mono ?_);rintro e w' ⟨rfl,rfl⟩)|((with_reducible refine(HM.out _).mono ?_);rintro e w' ⟨rfl,rfl⟩))|(go_at_call 106;refine(HW.out _).mono ?_;rintro e w1 ⟨A2,c2,n2,l2,all,rfl,hs2,hg2,hw2,hl2,hb2⟩;have HS2:=Lib.hid hs2;have HG2:=Lib.hid (And.intro hg2 (And.intro hw2 hl2));have HB2:=Lib.hid hb2;have k0:=(hb2.cell (p:=⟨w.heap.size,0,none⟩) (by simp)).trans (show World.cell? _ _=some (.bool n) from by go_simp);have k1:=(hb2.cell (p:=⟨w.heap.size,1,none⟩) (by simp)).trans (show World.cell? _ _=some (.slice A1 l.length c1) from by go_simp);have hlt:w.heap.size<w1.heap.size:=(by have:=hb2.size;simp at this;omega);clear hs2 hg2 hw2 hl2 hb2)|(go_at_call 42;refine(cmp_c B _ _ _ n n2 l l2 _ (by obtain⟨s,e,hs⟩:=H.out;exact⟨s,e,(hs.below ((HB0.out _).trans (HB2.out.mono (by simp)))).alloc _⟩) ⟨_,rfl,HS2.out.alloc _⟩ HG.out HG2.out.1).mono ?_;rintro e w3 ⟨rfl,hb3⟩;have HB3:=Lib.hid hb3;clear hb3))
  have HE:=Lib.hid ((whl_cmp (val n l) (val n2 l2) s m p all HG2.out.2.1 HMM.out.1).trans HRR.out)
  rw[←HZ.out,HT.out] at HE
  have hlow:Hid (Below w.heap.size w w3):=by
   refine Lib.hid (((HB0.out _).trans (HB2.out.mono (by simp))).trans ?_)
   exact((Below.refl _ _).alloc (by omega) _).trans (HB3.out.mono (by simp;omega))
  obtain⟨c,hc⟩: ∃c,sgn (val n l-val n2 l2)=c:=⟨_,rfl⟩
  rw[hc] at HE⊢
  clear hc
  by_cases hc0:c=0
  ·subst hc0
   cases all
   ·cases t
    all_goals
     have hr:=HE.out
     simp at hr
     subst hr
     clear HE
     go_wp2_with fail
     go_ret
     exact⟨rfl,hlow.out⟩
   ·have hr:=HE.out
    simp at hr
    subst hr
    clear HE
    go_wp2_with fail
    go_ret
    exact⟨rfl,hlow.out⟩
  ·have hr:=HE.out
   rw[if_pos (Or.inl hc0)] at hr
   subst hr
   have hcb:(c==0)=false:=by simp[hc0]
   have hcb2:(c !=0)=true:=by simp[hc0]
   clear hc0 HE
   go_wp2_with fail
   go_ret
   exact⟨rfl,hlow.out⟩
 ·have h1:(fdat b).isNaN=false:=by rw[hd];rfl
  have h2:finf false b=(s==false):=by unfold finf;rw[hd]
  have h3:finf true b=(s==true):=by unfold finf;rw[hd]
  rw[h1] at HN
  rw[h2] at HP
  rw[h3] at HM
  have HI:Hid (icmpF (val n l) b=if s then 1 else-1):=by
   refine Lib.hid ?_;unfold icmpF;rw[hd]
  obtain⟨s1,rfl,hs1⟩:=h
  obtain⟨A1,c1,rfl,_⟩:=hs1.c
  rw[HI.out]
  clear h1 h2 h3 hd hs hb hs1 hg HI
  cases s
  all_goals
   go_enter Tryz.func67,Tryz.ntmps67
   go_wp2_with (first|(go_at_call 43;refine(HN.out _).mono ?_;rintro e w' ⟨rfl,rfl⟩)|(go_at_call 62;first|((with_reducible refine(HP.out _).mono ?_);rintro e w' ⟨rfl,rfl⟩)|((with_reducible refine(HM.out _).mono ?_);rintro e w' ⟨rfl,rfl⟩)))
   go_ret
   exact⟨rfl,HB0.out _⟩
 ·have h1:(fdat b).isNaN=true:=by rw[hd];rfl
  rw[h1] at HN
  have HI:Hid (icmpF (val n l) b= -1):=by
   refine Lib.hid ?_;unfold icmpF;rw[hd]
  obtain⟨s1,rfl,hs1⟩:=h
  obtain⟨A1,c1,rfl,_⟩:=hs1.c
  rw[HI.out]
  clear h1 hd hb hs1 hg HI
  go_enter Tryz.func67,Tryz.ntmps67
  go_wp2_with (go_at_call 43;refine(HN.out _).mono ?_;rintro e w' ⟨rfl,rfl⟩)
  go_ret
  exact⟨rfl,HB0.out _⟩
abbrev VT:=S26
abbrev kV:Kd VT:=k26
def VR (w:World) (v:Value) (x:VT):Prop:= ∃cs,v= .agg cs.toArray∧kV.K w x cs
def VM (B:Nat) (w:World) (v:Value) (x:VT):Prop:= ∃cs,v= .agg cs.toArray∧kV.M w B (fun _=>True) x cs
theorem VR.below {w w':World} {v:Value} {x:VT} (h:VR w v x) (hb:Below w.heap.size w w'):VR w' v x:=by
 obtain⟨cs,e,h⟩:=h
 exact⟨cs,e,kV.K_below hb h⟩
theorem VR.open {w:World} {v:Value} {x:VT} (h:VR w v x): ∃A2 c2 A5 c5,v= .agg #[.int .i64 x.f0, .bool x.f1, .slice A2 x.f2.length c2, .int .u64 x.f3, .string x.f4, .slice A5 x.f5.length c5]∧x.f2.length≤c2∧(Kd.int .u8).C w A2 x.f2.length x.f2∧x.f5.length≤c5∧kV.C w A5 x.f5.length x.f5:=by
 obtain⟨cs,rfl,h⟩:=h
 obtain⟨A2,c2,A5,c5,rfl,h1,h2,h3,h4⟩:=k26_open h
 exact⟨A2,c2,A5,c5,rfl,h1,h2,h3,h4⟩
theorem VR.mk {w:World} (x:VT) {A2 A5:Option Addr} {c2 c5:Nat} (h1:x.f2.length≤c2) (h2:(Kd.int .u8).C w A2 x.f2.length x.f2) (h3:x.f5.length≤c5) (h4:kV.C w A5 x.f5.length x.f5):
 VR w (.agg #[.int .i64 x.f0, .bool x.f1, .slice A2 x.f2.length c2, .int .u64 x.f3, .string x.f4, .slice A5 x.f5.length c5]) x:=
 ⟨_,rfl,k26_mk w x h1 h2 h3 h4⟩
theorem c_sl {k:IntKind} {w:World} {A:Option Addr} {l:List Int} {c:Nat} (h:(Kd.int k).C w A l.length l) (hc:l.length≤c):Sl k 0 w (.slice A l.length c) l:=by
 refine⟨A,c,rfl,hc,h.2.1,fun hne=>?_⟩
 obtain⟨b,o,rfl,hcell⟩:=c_get h hne
 have h0:=hcell 0 (List.length_pos_iff.2 hne)
 exact⟨b,o,rfl,Nat.zero_le _,lt_of_cell h0,hcell⟩
theorem kid_at {w:World} {A:Option Addr} {n:Nat} {xs:List VT} (h:kV.C w A n xs) (i:Nat) (hi:i<xs.length) (hn:n=xs.length):
 ∃b o A2 c2 A5 c5,A=some ⟨b,o,none⟩∧b<w.heap.size∧
  w.cell? ⟨b,o+i*6,none⟩=some (.int .i64 xs[i].f0)∧w.cell? ⟨b,o+i*6+1,none⟩=some (.bool xs[i].f1)∧w.cell? ⟨b,o+i*6+2,none⟩=some (.slice A2 xs[i].f2.length c2)∧w.cell? ⟨b,o+i*6+3,none⟩=some (.int .u64 xs[i].f3)∧w.cell? ⟨b,o+i*6+4,none⟩=some (.string xs[i].f4)∧w.cell? ⟨b,o+i*6+5,none⟩=some (.slice A5 xs[i].f5.length c5)∧
  VR w (.agg #[.int .i64 xs[i].f0, .bool xs[i].f1, .slice A2 xs[i].f2.length c2, .int .u64 xs[i].f3, .string xs[i].f4, .slice A5 xs[i].f5.length c5]) xs[i]:=by
 subst hn
 obtain⟨ad,c,rfl,hlen,hK,hc⟩:=Kd.C_get h xs[i] (i:Int) (by omega) (by omega)
 have e:xs.getD (i:Int).toNat xs[i]=xs[i]:=by
  rw[Int.toNat_natCast,List.getD_eq_getElem?_getD,List.getElem?_eq_getElem hi];rfl
 rw[e] at hK
 obtain⟨A2,c2,A5,c5,rfl,l2,g2,l5,g5⟩:=k26_open hK
 have hsz:kV.sz=6:=rfl
 rw[hsz,Int.toNat_natCast] at hc
 obtain⟨b,o,sp⟩:=ad
 have hs:sp=none:=by
  obtain⟨ad2,c',e2,_,hK2,hc2⟩:=Kd.C_get h xs[0] 0 (by omega) (by omega)
  obtain⟨B2,d2,B5,d5,rfl,_⟩:=k26_open hK2
  have h0:=hc2 0 _ rfl
  have e3:ad2=⟨b,o,sp⟩:=(Option.some.inj e2).symm
  subst e3
  have h1:=World.cell?_spot h0
  simpa [Addr.add] using h1
 subst hs
 have ha: ∀j,(⟨b,o,none⟩:Addr).add j=⟨b,o+j,none⟩:=fun j=>by
  unfold Addr.add;split<;>simp_all
 simp only[ha] at hc
 have h0':=hc 0 _ rfl
 exact⟨b,o,A2,c2,A5,c5,rfl,lt_of_cell h0',by simpa using hc 0 _ rfl,by rw[Nat.add_assoc];exact hc 1 _ rfl,by rw[Nat.add_assoc];exact hc 2 _ rfl,by rw[Nat.add_assoc];exact hc 3 _ rfl,by rw[Nat.add_assoc];exact hc 4 _ rfl,by rw[Nat.add_assoc];exact hc 5 _ rfl,VR.mk _ l2 g2 l5 g5⟩
structure Leaf (x:VT):Prop where
 int:x.f0=2→Good x.f1 x.f2
 bits:0≤x.f3∧x.f3<18446744073709551616
 kind:0≤x.f0∧x.f0≤9
 mag:Bytes x.f2∧x.f2.length≤2147483647
 many:x.f5.length≤1000000
 pairs:x.f0=8→x.f5.length%2=0
def Ok:Nat→VT→Prop
 |0,_=>False
 |n+1,x=>Leaf x∧ ∀k∈x.f5,Ok n k
theorem Ok.leaf {n:Nat} {x:VT} (h:Ok n x):Leaf x:=by
 cases n with
 |zero=>exact h.elim
 |succ n=>exact h.1
def ncmp (x y:VT):Int:=
 if x.f0=2 then(if y.f0=2 then sgn (val x.f1 x.f2-val y.f1 y.f2) else icmpF (val x.f1 x.f2) y.f3.toNat)
 else if y.f0=2 then-icmpF (val y.f1 y.f2) x.f3.toNat else fcmpF x.f3.toNat y.f3.toNat
def isNum (x:VT):Bool:=x.f0==2||x.f0==3
def findBy (e:VT→VT→Bool) (kids:List VT) (step:Nat) (key:VT):Nat→Nat→Option Nat
 |0,_=>none
 |k+1,i=>if h:i<kids.length then(if e kids[i] key then some i else findBy e kids step key k (i+step)) else none
def findV (e:VT→VT→Bool) (kids:List VT) (step:Nat) (key:VT):Option Nat:=findBy e kids step key (kids.length+1) 0
def dictBy (e:VT→VT→Bool) (ys:List VT):List VT→Bool
 |k::v::r=>(match findV e ys 2 k with|none=>false|some i=>(match ys[i+1]? with|none=>false|some u=>e v u))&&dictBy e ys r
 |_=>true
def all2 (e:VT→VT→Bool):List VT→List VT→Bool
 |x::r,y::q=>e x y&&all2 e r q
 |_,_=>true
def eqV:Nat→VT→VT→Bool
 |0,_,_=>false
 |n+1,x,y=>
  if isNum x&&isNum y then ncmp x y==0
  else if x.f0≠y.f0∨x.f5.length≠y.f5.length then false
  else if x.f0=0 then true
  else if x.f0=1 then x.f3==y.f3
  else if x.f0=8 then dictBy (eqV n) y.f5 x.f5
  else if x.f0=9 then x.f5.all (fun k=>(findV (eqV n) y.f5 1 k).isSome)
  else all2 (eqV n) x.f5 y.f5&&x.f4==y.f4
set_option maxRecDepth 100000 in
theorem number_c (v:Value) (x:VT) (w:World) (h:VR w v x):
 Calls Tryz.prog 31 #[v] w fun e w'=>e= .returned (.bool (isNum x))∧Below w.heap.size w w':=by
 obtain⟨A2,c2,A5,c5,rfl,_⟩:=h.open
 have HI:Hid (isNum x=(x.f0==2||x.f0==3)):=rfl
 rw[HI.out]
 clear h
 obtain⟨k,hk⟩: ∃k,x.f0=k:=⟨_,rfl⟩
 rw[hk]
 clear hk HI
 by_cases h2:k=2
 ·subst h2
  go_enter Tryz.func31,Tryz.ntmps31
  go_wp2
  go_ret
  exact⟨rfl,(Below.refl _ _).alloc (Nat.le_refl _) _⟩
 ·have hb:(k==2)=false:=by simp[h2]
  rw[hb]
  clear h2
  go_enter Tryz.func31,Tryz.ntmps31
  go_wp2
  go_ret
  exact⟨rfl,(Below.refl _ _).alloc (Nat.le_refl _) _⟩
theorem good_cut {n:Bool} {l:List Int} (g:Good n l):cutL l=l∧(n&&decide (0<l.length))=n:=by
 refine⟨cutL_same l g.lead,?_⟩
 cases n
 ·rfl
 ·have:l≠[]:=fun e=>by have:=g.zero e;cases this
  simp[List.length_pos_iff.2 this]
set_option maxRecDepth 100000 in
theorem num_c (v:Value) (x:VT) (w:World) (h:VR w v x) (hg:Good x.f1 x.f2):
 Calls Tryz.prog 41 #[v] w fun e w'=> ∃A c,e= .returned (.agg #[.bool x.f1, .slice A x.f2.length c])∧Sl .u8 w.heap.size w' (.slice A x.f2.length c) x.f2∧Below w.heap.size w w':=by
 obtain⟨A2,c2,A5,c5,rfl,l2,g2,l5,g5⟩:=h.open
 have hs:=c_sl g2 l2
 have HO:=Lib.hid (fun w' (hb:Below w.heap.size w w')=>of_c x.f1 0 _ x.f2 w' (hs.below hb) (by have:=hg.short;omega))
 obtain⟨e1,e2⟩:=good_cut hg
 rw[e1,e2] at HO
 have HB0:Hid (∀o1 o2,Below w.heap.size w ((w.alloc o1).alloc o2)):=fun o1 o2=>((Below.refl _ _).alloc (Nat.le_refl _) o1).alloc (by simp) o2
 clear hs e1 e2 hg h l2 g2 l5 g5
 go_enter Tryz.func41,Tryz.ntmps41
 go_wp2_with (go_at_call 24;refine(HO.out _ (HB0.out _ _)).mono ?_;rintro e w1 ⟨v1,rfl,⟨s1,rfl,hs1⟩,hb1⟩;obtain⟨A1,c1,rfl,_⟩:=hs1.c;have HS1:=Lib.hid hs1;have HB1:=Lib.hid hb1;have q0:=(hb1.cell (p:=⟨w.heap.size+1,0,none⟩) (by simp)).trans (show World.cell? _ _=some (.bool false) from by go_simp);have q1:=(hb1.cell (p:=⟨w.heap.size+1,1,none⟩) (by simp)).trans (show World.cell? _ _=some (.slice none 0 0) from by go_simp);have f0:=(hb1.frozen (p:=⟨w.heap.size+1,0,none⟩) (by simp)).trans (show World.frozen? _ _=false from by go_simp);have f1:=(hb1.frozen (p:=⟨w.heap.size+1,1,none⟩) (by simp)).trans (show World.frozen? _ _=false from by go_simp);clear hs1 hb1)
 refine bodyPost_ret (v:= .agg #[.bool x.f1, .slice A1 x.f2.length c1]) (by simp[results,Tryz.results41,go_sem,q0,q1]) rfl ⟨_,_,rfl,?_,?_⟩
 ·exact((HS1.out.setCell (p:=⟨w.heap.size+1,0,none⟩) _ (by simp)).setCell (p:=⟨w.heap.size+1,1,none⟩) _ (by simp)).mono (by simp;omega)
 ·exact(((HB0.out _ _).trans (HB1.out.mono (by simp;omega))).setCell (p:=⟨w.heap.size+1,0,none⟩) (by show w.heap.size≤w.heap.size+1;omega) _).setCell (p:=⟨w.heap.size+1,1,none⟩) (by show w.heap.size≤w.heap.size+1;omega) _
theorem wrap_icmpF (z:Int) (b:Nat):IntKind.i64.wrap (-icmpF z b)= -icmpF z b:=by
 have h:icmpF z b= -1∨icmpF z b=0∨icmpF z b=1:=by
  unfold icmpF sgn
  repeat' split
  all_goals omega
 rcases h with h|h|h<;>rw[h]<;>rfl
structure BV (w0:World) (x y:VT) (A2 A5 B2 B5:Option Addr) (c2 c5 d2 d5:Nat) (w:World):Prop where
 b1:w.heap[w0.heap.size]?=some (.cells #[.int .i64 x.f0, .bool x.f1, .slice A2 x.f2.length c2, .int .u64 x.f3, .string x.f4, .slice A5 x.f5.length c5] 26 (0,0))
 b2:w.heap[w0.heap.size+1]?=some (.cells #[.int .i64 y.f0, .bool y.f1, .slice B2 y.f2.length d2, .int .u64 y.f3, .string y.f4, .slice B5 y.f5.length d5] 26 (0,0))
 low:Below w0.heap.size w0 w
section
variable {w0 w w':World} {x y:VT} {A2 A5 B2 B5:Option Addr} {c2 c5 d2 d5:Nat}
theorem BV.below (h:BV w0 x y A2 A5 B2 B5 c2 c5 d2 d5 w) (hb:Below w.heap.size w w'):BV w0 x y A2 A5 B2 B5 c2 c5 d2 d5 w':=⟨blk_below h.b1 hb,blk_below h.b2 hb,h.low.trans (hb.mono h.low.size)⟩
theorem BV.drew (h:BV w0 x y A2 A5 B2 B5 c2 c5 d2 d5 w):BV w0 x y A2 A5 B2 B5 c2 c5 d2 d5 w.drew:=⟨h.b1,h.b2,h.low.drew⟩
theorem cells6 {g:Nat} {a b c d e f:Value} {t:TypeId} (h:w.heap[g]?=some (.cells #[a,b,c,d,e,f] t (0,0))):
 w.cell? ⟨g,0,none⟩=some a∧w.cell? ⟨g,1,none⟩=some b∧w.cell? ⟨g,2,none⟩=some c∧w.cell? ⟨g,3,none⟩=some d∧w.cell? ⟨g,4,none⟩=some e∧w.cell? ⟨g,5,none⟩=some f:=
 ⟨(blk_cell h 0).trans rfl,(blk_cell h 1).trans rfl,(blk_cell h 2).trans rfl,(blk_cell h 3).trans rfl,(blk_cell h 4).trans rfl,(blk_cell h 5).trans rfl⟩
end
theorem bv_start (w:World) (x y:VT) (A2 A5 B2 B5:Option Addr) (c2 c5 d2 d5:Nat):
 BV w x y A2 A5 B2 B5 c2 c5 d2 d5 ((w.alloc (.cells #[.int .i64 x.f0, .bool x.f1, .slice A2 x.f2.length c2, .int .u64 x.f3, .string x.f4, .slice A5 x.f5.length c5] 26)).alloc (.cells #[.int .i64 y.f0, .bool y.f1, .slice B2 y.f2.length d2, .int .u64 y.f3, .string y.f4, .slice B5 y.f5.length d5] 26)):=
 ⟨blk_alloc (blk_new _ _) _,by simpa using blk_new (w.alloc _) _,((Below.refl _ _).alloc (Nat.le_refl _) _).alloc (by simp) _⟩
set_option maxRecDepth 100000 in
set_option maxHeartbeats 2000000 in
theorem cmpNumbers_c (v1 v2:Value) (x y:VT) (w:World) (h1:VR w v1 x) (h2:VR w v2 y) (hx:Leaf x) (hy:Leaf y) (nx:isNum x=true) (ny:isNum y=true):
 Calls Tryz.prog 33 #[v1,v2] w fun e w'=>e= .returned (.int .i64 (ncmp x y))∧Below w.heap.size w w':=by
 have H1:=Lib.hid h1
 have H2:=Lib.hid h2
 obtain⟨A2,c2,A5,c5,rfl,_⟩:=h1.open
 obtain⟨B2,d2,B5,d5,rfl,_⟩:=h2.open
 clear h1 h2
 obtain⟨W,hW⟩: ∃W,W=(w.alloc (.cells #[.int .i64 x.f0, .bool x.f1, .slice A2 x.f2.length c2, .int .u64 x.f3, .string x.f4, .slice A5 x.f5.length c5] 26)).alloc (.cells #[.int .i64 y.f0, .bool y.f1, .slice B2 y.f2.length d2, .int .u64 y.f3, .string y.f4, .slice B5 y.f5.length d5] 26):=⟨_,rfl⟩
 have HB:Hid (BV w x y A2 A5 B2 B5 c2 c5 d2 d5 W):=by rw[hW];exact bv_start w x y A2 A5 B2 B5 c2 c5 d2 d5
 have HX:=Lib.hid hx
 have HY:=Lib.hid hy
 have hbx:x.f3.toNat<18446744073709551616:=by have:=hx.bits;omega
 have hby:y.f3.toNat<18446744073709551616:=by have:=hy.bits;omega
 clear hx hy
 have HR1:Hid (∀W,BV w x y A2 A5 B2 B5 c2 c5 d2 d5 W→VR W (.agg #[.int .i64 x.f0, .bool x.f1, .slice A2 x.f2.length c2, .int .u64 x.f3, .string x.f4, .slice A5 x.f5.length c5]) x):=fun W h=>H1.out.below h.low
 have HR2:Hid (∀W,BV w x y A2 A5 B2 B5 c2 c5 d2 d5 W→VR W (.agg #[.int .i64 y.f0, .bool y.f1, .slice B2 y.f2.length d2, .int .u64 y.f3, .string y.f4, .slice B5 y.f5.length d5]) y):=fun W h=>H2.out.below h.low
 have HNx:Hid (x.f0=2∨x.f0=3):=by refine Lib.hid ?_;unfold isNum at nx;simpa using nx
 have HNy:Hid (y.f0=2∨y.f0=3):=by refine Lib.hid ?_;unfold isNum at ny;simpa using ny
 clear nx ny
 have ND:Hid (ncmp x y=if x.f0=2 then(if y.f0=2 then sgn (val x.f1 x.f2-val y.f1 y.f2) else icmpF (val x.f1 x.f2) y.f3.toNat) else if y.f0=2 then-icmpF (val y.f1 y.f2) x.f3.toNat else fcmpF x.f3.toNat y.f3.toNat):=rfl
 obtain⟨r,hr⟩: ∃r,ncmp x y=r:=⟨_,rfl⟩
 rw[hr] at ND⊢
 clear hr
 have HF:Hid (∀W,BV w x y A2 A5 B2 B5 c2 c5 d2 d5 W→Calls Tryz.prog 44 #[.agg #[.int .i64 x.f0, .bool x.f1, .slice A2 x.f2.length c2, .int .u64 x.f3, .string x.f4, .slice A5 x.f5.length c5]] W fun e W'=>e= .returned (.float .f64 x.f3.toNat)∧Below W.heap.size W W'∧BV w x y A2 A5 B2 B5 c2 c5 d2 d5 W'):=fun W h=>(fl_c _ _ _ _ _ _ _ _ _ _ W).mono fun e W' ⟨he,hb⟩=>⟨he,hb,h.below hb⟩
 have HF2:Hid (∀W,BV w x y A2 A5 B2 B5 c2 c5 d2 d5 W→Calls Tryz.prog 44 #[.agg #[.int .i64 y.f0, .bool y.f1, .slice B2 y.f2.length d2, .int .u64 y.f3, .string y.f4, .slice B5 y.f5.length d5]] W fun e W'=>e= .returned (.float .f64 y.f3.toNat)∧Below W.heap.size W W'∧BV w x y A2 A5 B2 B5 c2 c5 d2 d5 W'):=fun W h=>(fl_c _ _ _ _ _ _ _ _ _ _ W).mono fun e W' ⟨he,hb⟩=>⟨he,hb,h.below hb⟩
 obtain⟨x0,x1,x2,x3,x4,x5⟩:=cells6 HB.out.b1
 obtain⟨y0,y1,y2,y3,y4,y5⟩:=cells6 HB.out.b2
 by_cases kx:x.f0=2
 ·by_cases ky:y.f0=2
  ·have HE:=ND.out
   rw[if_pos kx,if_pos ky] at HE
   have HRR:=Lib.hid HE
   have HG:=Lib.hid (And.intro (HX.out.int kx) (HY.out.int ky))
   have ex:(x.f0==2)=true:=by rw[kx];rfl
   have ey:(y.f0==2)=true:=by rw[ky];rfl
   clear HE ND kx ky
   go_enter Tryz.func33,Tryz.ntmps33
   go_upto_region 2 with fail
   rw[←hW]
   clear hW
   go_region_with (first
    |(go_at_call_of 41 (Value.agg #[.int .i64 x.f0, .bool x.f1, .slice A2 x.f2.length c2, .int .u64 x.f3, .string x.f4, .slice A5 x.f5.length c5]);refine(num_c _ x _ (by first|exact HR1.out _ HB.out|exact HR1.out _ HB.out.drew) HG.out.1).mono ?_;rintro e w1 ⟨P1,p1,rfl,hs1,hb1⟩;have HS1:=Lib.hid (hs1.mono (Nat.zero_le _));(replace HB:Hid (BV w x y A2 A5 B2 B5 c2 c5 d2 d5 w1):=by first|exact HB.out.below hb1|exact HB.out.drew.below hb1);clear hs1 hb1 x0 x1 x2 x3 x4 x5 y0 y1 y2 y3 y4 y5;obtain⟨x0,x1,x2,x3,x4,x5⟩:=cells6 HB.out.b1;obtain⟨y0,y1,y2,y3,y4,y5⟩:=cells6 HB.out.b2)
    |(go_at_call 41;refine(num_c _ y _ (by first|exact HR2.out _ HB.out|exact HR2.out _ HB.out.drew) HG.out.2).mono ?_;rintro e w2 ⟨P2,p2,rfl,hs2,hb2⟩;have HS2:=Lib.hid hs2;(replace HS1:=Lib.hid (by first|exact HS1.out.below hb2|exact HS1.out.drew.below hb2:Sl .u8 0 w2 (.slice P1 x.f2.length p1) x.f2));(replace HB:Hid (BV w x y A2 A5 B2 B5 c2 c5 d2 d5 w2):=by first|exact HB.out.below hb2|exact HB.out.drew.below hb2);clear hs2 hb2 x0 x1 x2 x3 x4 x5 y0 y1 y2 y3 y4 y5;obtain⟨x0,x1,x2,x3,x4,x5⟩:=cells6 HB.out.b1;obtain⟨y0,y1,y2,y3,y4,y5⟩:=cells6 HB.out.b2)
    |(go_at_call 42;refine(cmp_c _ _ _ _ _ _ _ _ _ ⟨_,rfl,by first|exact HS1.out|exact HS1.out.drew⟩ ⟨_,rfl,by first|exact HS2.out|exact HS2.out.drew⟩ HG.out.1 HG.out.2).mono ?_;rintro e w3 ⟨rfl,hb3⟩;rw[←HRR.out];(replace HB:Hid (BV w x y A2 A5 B2 B5 c2 c5 d2 d5 w3):=by first|exact HB.out.below hb3|exact HB.out.drew.below hb3);clear hb3))
   all_goals go_wp2
   all_goals go_ret
   all_goals exact⟨rfl,HB.out.low⟩
  ·skip
   have HE:=ND.out
   rw[if_pos kx,if_neg ky] at HE
   have HRR:=Lib.hid HE
   have HG:=Lib.hid (HX.out.int kx)
   have HBX:=Lib.hid (And.intro hbx hby)
   have ex:(x.f0==2)=true:=by rw[kx];rfl
   have ey:(y.f0==2)=false:=by simp[ky]
   clear HE ND kx ky hbx hby
   go_enter Tryz.func33,Tryz.ntmps33
   go_upto_region 4 with fail
   rw[←hW]
   clear hW
   go_region_with (first
    |(go_at_call 41;refine(num_c _ x _ (by first|exact HR1.out _ HB.out|exact HR1.out _ HB.out.drew) HG.out).mono ?_;rintro e w1 ⟨P1,p1,rfl,hs1,hb1⟩;have HS1:=Lib.hid (hs1.mono (Nat.zero_le _));(replace HB:Hid (BV w x y A2 A5 B2 B5 c2 c5 d2 d5 w1):=by first|exact HB.out.below hb1|exact HB.out.drew.below hb1);clear hs1 hb1 x0 x1 x2 x3 x4 x5 y0 y1 y2 y3 y4 y5;obtain⟨x0,x1,x2,x3,x4,x5⟩:=cells6 HB.out.b1;obtain⟨y0,y1,y2,y3,y4,y5⟩:=cells6 HB.out.b2)|(go_at_call 44;refine(HF2.out _ (by first|exact HB.out|exact HB.out.drew)).mono ?_;rintro e w2 ⟨rfl,hb2⟩;(replace HS1:=Lib.hid (by first|exact HS1.out.below hb2.1|exact HS1.out.drew.below hb2.1:Sl .u8 0 w2 (.slice P1 x.f2.length p1) x.f2));(replace hb2:=hb2.2);(replace HB:=Lib.hid hb2);clear hb2 x0 x1 x2 x3 x4 x5 y0 y1 y2 y3 y4 y5;obtain⟨x0,x1,x2,x3,x4,x5⟩:=cells6 HB.out.b1;obtain⟨y0,y1,y2,y3,y4,y5⟩:=cells6 HB.out.b2)|(go_at_call 67;refine(cmpFloat_c _ _ _ _ _ _ ⟨_,rfl,by first|exact HS1.out|exact HS1.out.drew⟩ HG.out HBX.out.2).mono ?_;rintro e w3 ⟨rfl,hb3⟩;(try rw[←HRR.out]);(replace HB:Hid (BV w x y A2 A5 B2 B5 c2 c5 d2 d5 w3):=by first|exact HB.out.below hb3|exact HB.out.drew.below hb3);clear hb3))
   all_goals go_wp2
   all_goals go_ret
   all_goals exact⟨rfl,HB.out.low⟩
 ·by_cases ky:y.f0=2
  ·skip
   have HE:=ND.out
   rw[if_neg kx,if_pos ky] at HE
   have HRR:=Lib.hid HE
   have HWr:Hid (IntKind.i64.wrap (-icmpF (val y.f1 y.f2) x.f3.toNat)=r):=by rw[HE];exact wrap_icmpF _ _
   have HG:=Lib.hid (HY.out.int ky)
   have HBX:=Lib.hid (And.intro hbx hby)
   have ex:(x.f0==2)=false:=by simp[kx]
   have ey:(y.f0==2)=true:=by rw[ky];rfl
   clear HE ND kx ky hbx hby
   go_enter Tryz.func33,Tryz.ntmps33
   go_upto_region 6 with fail
   rw[←hW]
   clear hW
   go_region_with (first
    |(go_at_call 41;refine(num_c _ y _ (by first|exact HR2.out _ HB.out|exact HR2.out _ HB.out.drew) HG.out).mono ?_;rintro e w1 ⟨P1,p1,rfl,hs1,hb1⟩;have HS1:=Lib.hid (hs1.mono (Nat.zero_le _));(replace HB:Hid (BV w x y A2 A5 B2 B5 c2 c5 d2 d5 w1):=by first|exact HB.out.below hb1|exact HB.out.drew.below hb1);clear hs1 hb1 x0 x1 x2 x3 x4 x5 y0 y1 y2 y3 y4 y5;obtain⟨x0,x1,x2,x3,x4,x5⟩:=cells6 HB.out.b1;obtain⟨y0,y1,y2,y3,y4,y5⟩:=cells6 HB.out.b2)|(go_at_call 44;refine(HF.out _ (by first|exact HB.out|exact HB.out.drew)).mono ?_;rintro e w2 ⟨rfl,hb2⟩;(replace HS1:=Lib.hid (by first|exact HS1.out.below hb2.1|exact HS1.out.drew.below hb2.1:Sl .u8 0 w2 (.slice P1 y.f2.length p1) y.f2));(replace hb2:=hb2.2);(replace HB:=Lib.hid hb2);clear hb2 x0 x1 x2 x3 x4 x5 y0 y1 y2 y3 y4 y5;obtain⟨x0,x1,x2,x3,x4,x5⟩:=cells6 HB.out.b1;obtain⟨y0,y1,y2,y3,y4,y5⟩:=cells6 HB.out.b2)|(go_at_call 67;refine(cmpFloat_c _ _ _ _ _ _ ⟨_,rfl,by first|exact HS1.out|exact HS1.out.drew⟩ HG.out HBX.out.1).mono ?_;rintro e w3 ⟨rfl,hb3⟩;(try rw[←HRR.out]);(replace HB:Hid (BV w x y A2 A5 B2 B5 c2 c5 d2 d5 w3):=by first|exact HB.out.below hb3|exact HB.out.drew.below hb3);clear hb3))
   all_goals go_wp2
   all_goals go_ret
   all_goals exact⟨congrArg (fun z=>Ending.returned (.int .i64 z)) HWr.out,HB.out.low⟩
  ·skip
   have HE:=ND.out
   rw[if_neg kx,if_neg ky] at HE
   have HRR:=Lib.hid HE
   have HG:=Lib.hid trivial
   have HBX:=Lib.hid (And.intro hbx hby)
   have ex:(x.f0==2)=false:=by simp[kx]
   have ey:(y.f0==2)=false:=by simp[ky]
   clear HE ND kx ky hbx hby
   go_enter Tryz.func33,Tryz.ntmps33
   go_upto_region 7 with fail
   rw[←hW]
   clear hW
   go_region_with (first
    |(go_at_call_of 44 (Value.agg #[.int .i64 x.f0, .bool x.f1, .slice A2 x.f2.length c2, .int .u64 x.f3, .string x.f4, .slice A5 x.f5.length c5]);refine(HF.out _ (by first|exact HB.out|exact HB.out.drew)).mono ?_;rintro e w2 ⟨rfl,hb2⟩;(replace HB:=Lib.hid hb2.2);clear hb2 x0 x1 x2 x3 x4 x5 y0 y1 y2 y3 y4 y5;obtain⟨x0,x1,x2,x3,x4,x5⟩:=cells6 HB.out.b1;obtain⟨y0,y1,y2,y3,y4,y5⟩:=cells6 HB.out.b2)|(go_at_call 44;refine(HF2.out _ (by first|exact HB.out|exact HB.out.drew)).mono ?_;rintro e w2 ⟨rfl,hb2⟩;(replace hb2:=hb2.2);(replace HB:=Lib.hid hb2);clear hb2 x0 x1 x2 x3 x4 x5 y0 y1 y2 y3 y4 y5;obtain⟨x0,x1,x2,x3,x4,x5⟩:=cells6 HB.out.b1;obtain⟨y0,y1,y2,y3,y4,y5⟩:=cells6 HB.out.b2)|(go_at_call 68;refine(cmpFloats_c _ _ _).mono ?_;rintro e w3 ⟨rfl,rfl⟩;rw[←HRR.out]))
   all_goals go_wp2
   all_goals go_ret
   all_goals exact⟨rfl,HB.out.low⟩
end Go.Proofs.YtkplnbjgkhmbcaaGreatDoor
