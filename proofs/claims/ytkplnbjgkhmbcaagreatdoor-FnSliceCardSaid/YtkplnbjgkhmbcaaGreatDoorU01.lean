/- Num IBase SpecNum Brg SpecV Nat1 ShelfBits Bits Nat2 -/
import Derived.Test.YtkplnbjgkhmbcaaGreatDoorProg
import Derived.Test.YtkplnbjgkhmbcaaGreatDoorUb
import Derived.IntWalk
import Derived.WalkKit
import Derived.WalkSpells
import Derived.BigQuiet
import Derived.Lib.Hide
import Derived.RegionTactic
import Derived.Laws.OwnMore
import Derived.Deep.QuietTactic
import Derived.Deep.RegionHeld3
import Derived.Shelf.Small.Bits
import Derived.Shelf.Strconv.Itoa0
import Derived.Laws.BitsAllLaws
import Derived.Deep.RegionWith
namespace Go.Proofs.YtkplnbjgkhmbcaaGreatDoor
def beN (l:List Int):Int:=l.foldl (fun a b=>a*256+b) 0
theorem beN_nil:beN []=0:=rfl
theorem be_fold (l:List Int) (a:Int):l.foldl (fun a b=>a*256+b) a=a*256^l.length+beN l:=by
 induction l generalizing a with
 |nil=>simp[beN]
 |cons x r ih=>
  simp only[List.foldl_cons,List.length_cons,beN]
  rw[ih (a*256+x),ih (0*256+x),Int.pow_succ]
  rw[Int.add_mul,Int.zero_mul,Int.zero_add,Int.mul_comm (256^r.length) 256,←Int.mul_assoc,Int.add_assoc]
theorem beN_cons (x:Int) (r:List Int):beN (x::r)=x*256^r.length+beN r:=by
 have:beN (x::r)=r.foldl (fun a b=>a*256+b) x:=by simp[beN]
 rw[this,be_fold]
theorem beN_append (a b:List Int):beN (a++b)=beN a*256^b.length+beN b:=by
 have:beN (a++b)=b.foldl (fun a b=>a*256+b) (beN a):=by simp[beN,List.foldl_append]
 rw[this,be_fold]
def Bytes (l:List Int):Prop:= ∀x∈l,0≤x∧x<256
theorem pow_pos (n:Nat):(0:Int)<256^n:=Int.pow_pos (by omega)
theorem beN_bd (l:List Int) (h:Bytes l):0≤beN l∧beN l<256^l.length:=by
 induction l with
 |nil=>simp[beN]
 |cons x r ih=>
  obtain⟨h0,h1⟩:=ih (fun y hy=>h y (List.mem_cons_of_mem _ hy))
  obtain⟨x0,x1⟩:=h x (List.mem_cons_self)
  have hp:=pow_pos r.length
  rw[beN_cons,List.length_cons,Int.pow_succ]
  have a:0≤x*256^r.length:=Int.mul_nonneg x0 (Int.le_of_lt hp)
  have b:x*256^r.length≤255*256^r.length:=Int.mul_le_mul_of_nonneg_right (by omega) (Int.le_of_lt hp)
  omega
def Lead (l:List Int):Prop:= ∀x r,l=x::r→x≠0
theorem beN_lead (l:List Int) (h:Bytes l) (hl:Lead l) (hne:l≠[]):256^(l.length-1)≤beN l:=by
 cases l with
 |nil=>exact absurd rfl hne
 |cons x r=>
  obtain⟨x0,x1⟩:=h x (List.mem_cons_self)
  have hx:=hl x r rfl
  have hr:=(beN_bd r (fun y hy=>h y (List.mem_cons_of_mem _ hy))).1
  have hp:=pow_pos r.length
  rw[beN_cons,List.length_cons,Nat.add_sub_cancel]
  have b:1*256^r.length≤x*256^r.length:=Int.mul_le_mul_of_nonneg_right (by omega) (Int.le_of_lt hp)
  omega
theorem pow_le_pow (a b:Nat) (h:a≤b):(256:Int)^a≤256^b:=by
 obtain⟨c,rfl⟩: ∃c,b=a+c:=⟨b-a,by omega⟩
 rw[Int.pow_add]
 have:=pow_pos a
 have h2:=pow_pos c
 have:(256:Int)^a*1≤256^a*256^c:=Int.mul_le_mul_of_nonneg_left (by omega) (by omega)
 omega
theorem beN_longer (a b:List Int) (ha:Bytes a) (hb:Bytes b) (lb:Lead b) (h:a.length<b.length):beN a<beN b:=by
 have h1:=(beN_bd a ha).2
 have h2:=beN_lead b hb lb (by intro e;rw[e] at h;simp at h)
 have h3:=pow_le_pow a.length (b.length-1) (by omega)
 omega
def sgn (x:Int):Int:=if x<0 then-1 else if x=0 then 0 else 1
def lexC:List Int→List Int→Int
 |x::r,y::q=>if x=y then lexC r q else if x<y then-1 else 1
 |_,_=>0
theorem lexC_num: ∀(a b:List Int),Bytes a→Bytes b→a.length=b.length→lexC a b=sgn (beN a-beN b):=by
 intro a
 induction a with
 |nil=>
  intro b _ _ h
  have:b=[]:=by cases b with|nil=>rfl|cons _ _=>simp at h
  subst this
  simp[lexC,sgn,beN]
 |cons x r ih=>
  intro b ha hb h
  cases b with
  |nil=>simp at h
  |cons y q=>
   have hl:r.length=q.length:=by simpa using h
   have hr:Bytes r:=fun z hz=>ha z (List.mem_cons_of_mem _ hz)
   have hq:Bytes q:=fun z hz=>hb z (List.mem_cons_of_mem _ hz)
   have e:=ih q hr hq hl
   obtain⟨r0,r1⟩:=beN_bd r hr
   obtain⟨q0,q1⟩:=beN_bd q hq
   have hp:=pow_pos q.length
   rw[beN_cons,beN_cons,hl]
   rw[hl] at r1
   unfold lexC
   by_cases hxy:x=y
   ·rw[if_pos hxy,e,hxy]
    congr 1
    omega
   ·rw[if_neg hxy]
    by_cases hlt:x<y
    ·rw[if_pos hlt]
     have:x*256^q.length+256^q.length≤y*256^q.length:=by
      have h3:(x+1)*256^q.length≤y*256^q.length:=Int.mul_le_mul_of_nonneg_right (by omega) (Int.le_of_lt hp)
      rw[Int.add_mul,Int.one_mul] at h3
      exact h3
     unfold sgn
     rw[if_pos (by omega)]
    ·rw[if_neg hlt]
     have:y*256^q.length+256^q.length≤x*256^q.length:=by
      have h3:(y+1)*256^q.length≤x*256^q.length:=Int.mul_le_mul_of_nonneg_right (by omega) (Int.le_of_lt hp)
      rw[Int.add_mul,Int.one_mul] at h3
      exact h3
     unfold sgn
     rw[if_neg (by omega),if_neg (by omega)]
def ordC (a b:List Int):Int:=if a.length=b.length then lexC a b else if a.length<b.length then-1 else 1
theorem ordC_num (a b:List Int) (ha:Bytes a) (hb:Bytes b) (la:Lead a) (lb:Lead b):ordC a b=sgn (beN a-beN b):=by
 unfold ordC
 by_cases h:a.length=b.length
 ·rw[if_pos h];exact lexC_num a b ha hb h
 ·rw[if_neg h]
  by_cases h2:a.length<b.length
  ·rw[if_pos h2]
   have:=beN_longer a b ha hb lb h2
   unfold sgn;rw[if_pos (by omega)]
  ·rw[if_neg h2]
   have:=beN_longer b a hb ha la (by omega)
   unfold sgn;rw[if_neg (by omega),if_neg (by omega)]
def cutL (l:List Int):List Int:=l.dropWhile (fun x=>decide (x=0))
theorem cutL_num (l:List Int):beN (cutL l)=beN l:=by
 unfold cutL
 induction l with
 |nil=>rfl
 |cons x r ih=>
  by_cases h:x=0
  ·subst h
   rw[List.dropWhile_cons_of_pos (by simp),ih,beN_cons];simp
  ·rw[List.dropWhile_cons_of_neg (by simpa using h)]
theorem cutL_lead (l:List Int):Lead (cutL l):=by
 unfold cutL
 induction l with
 |nil=>intro x r h;simp at h
 |cons y q ih=>
  by_cases h:y=0
  ·subst h
   rw[List.dropWhile_cons_of_pos (by simp)];exact ih
  ·rw[List.dropWhile_cons_of_neg (by simpa using h)]
   intro x r e
   rw[List.cons.injEq] at e
   rw[←e.1];exact h
theorem cutL_bytes (l:List Int) (h:Bytes l):Bytes (cutL l):=by
 unfold cutL
 intro x hx
 exact h x ((List.dropWhile_suffix _).subset hx)
theorem cutL_length (l:List Int):(cutL l).length≤l.length:=by
 unfold cutL
 exact(List.dropWhile_suffix _).length_le
theorem cutL_same (l:List Int) (h:Lead l):cutL l=l:=by
 unfold cutL
 cases l with
 |nil=>rfl
 |cons x r=>
  rw[List.dropWhile_cons_of_neg (by simpa using h x r rfl)]
def leN:List Int→Int
 |[]=>0
 |x::r=>x+18446744073709551616*leN r
def Words (l:List Int):Prop:= ∀x∈l,0≤x∧x<18446744073709551616
theorem wpos (n:Nat):(0:Int)<18446744073709551616^n:=Int.pow_pos (by omega)
theorem leN_nil:leN []=0:=rfl
theorem leN_cons (x:Int) (r:List Int):leN (x::r)=x+18446744073709551616*leN r:=rfl
theorem leN_append (a b:List Int):leN (a++b)=leN a+18446744073709551616^a.length*leN b:=by
 induction a with
 |nil=>simp[leN]
 |cons x r ih=>
  rw[List.cons_append,leN_cons,leN_cons,ih,List.length_cons,Int.pow_succ,Int.mul_add,Int.mul_comm (18446744073709551616^r.length) 18446744073709551616,Int.mul_assoc,Int.add_assoc]
theorem leN_bd (l:List Int) (h:Words l):0≤leN l∧leN l<18446744073709551616^l.length:=by
 induction l with
 |nil=>simp[leN]
 |cons x r ih=>
  obtain⟨h0,h1⟩:=ih (fun y hy=>h y (List.mem_cons_of_mem _ hy))
  obtain⟨x0,x1⟩:=h x (List.mem_cons_self)
  rw[leN_cons,List.length_cons,Int.pow_succ,Int.mul_comm (18446744073709551616^r.length)]
  omega
theorem leN_zeros (n:Nat):leN (List.replicate n 0)=0:=by
 induction n with
 |zero=>rfl
 |succ n ih=>rw[List.replicate_succ,leN_cons,ih];rfl
theorem leN_set: ∀(l:List Int) (k:Nat) (h:k<l.length) (v:Int),leN (l.set k v)=leN l+18446744073709551616^k*(v-l[k]):=by
 intro l
 induction l with
 |nil=>intro k h;simp at h
 |cons x r ih=>
  intro k h v
  cases k with
  |zero=>simp[leN];omega
  |succ k=>
   have h':k<r.length:=by simpa using h
   rw[List.set_cons_succ,leN_cons,leN_cons,ih k h' v,Int.pow_succ,Int.mul_add,Int.mul_comm (18446744073709551616^k) 18446744073709551616,Int.mul_assoc,Int.add_assoc]
   simp
theorem words_set (l:List Int) (k:Nat) (v:Int) (h:Words l) (h0:0≤v) (h1:v<18446744073709551616):Words (l.set k v):=by
 intro x hx
 rcases List.mem_or_eq_of_mem_set hx with hx|rfl
 ·exact h x hx
 ·exact⟨h0,h1⟩
theorem words_zeros (n:Nat):Words (List.replicate n 0):=by
 intro x hx
 rw[List.mem_replicate] at hx
 rw[hx.2];omega
theorem leN_take (l:List Int) (i:Nat) (h: ∀j (hj:j<l.length),i≤j→l[j]=0):leN (l.take i)=leN l:=by
 have e:l=l.take i++l.drop i:=(List.take_append_drop i l).symm
 have z:l.drop i=List.replicate (l.length-i) 0:=by
  apply List.ext_getElem
  ·simp
  ·intro n h1 h2
   rw[List.getElem_drop,List.getElem_replicate]
   exact h _ _ (by omega)
 conv=>rhs;rw[e,leN_append,z,leN_zeros]
 simp
def Top (l:List Int):Prop:= ∀h:l≠[],l.getLast h≠0
theorem leN_top (l:List Int) (h:Words l) (ht:Top l) (hne:l≠[]):18446744073709551616^(l.length-1)≤leN l:=by
 have e:=List.dropLast_concat_getLast hne
 have hx:=ht hne
 have hw:=h _ (List.getLast_mem hne)
 have hd:Words l.dropLast:=fun y hy=>h y ((List.dropLast_sublist l).subset hy)
 have h1:=(leN_bd _ hd).1
 have hl:l.dropLast.length=l.length-1:=List.length_dropLast
 have hp:=wpos (l.length-1)
 have e2:leN l=leN l.dropLast+18446744073709551616^(l.length-1)*l.getLast hne:=by
  conv=>lhs;rw[←e]
  rw[leN_append,hl,leN_cons,leN_nil]
  simp
 have h2:(18446744073709551616:Int)^(l.length-1)*1≤18446744073709551616^(l.length-1)*l.getLast hne:=Int.mul_le_mul_of_nonneg_left (by omega) (Int.le_of_lt hp)
 omega
theorem pow256_8:(256:Int)^8=18446744073709551616:=by decide
theorem be_step (l:List Int) (i:Nat) (h:8≤i) (hi:i≤l.length):beN (l.take i)=beN (l.take (i-8))*18446744073709551616+beN ((l.drop (i-8)).take 8):=by
 have e:l.take i=l.take (i-8)++(l.drop (i-8)).take 8:=by
  conv=>lhs;rw[show i=(i-8)+8 from by omega,List.take_add]
 have hl:((l.drop (i-8)).take 8).length=8:=by rw[List.length_take,List.length_drop];omega
 rw[e,beN_append,hl,pow256_8]
end Go.Proofs.YtkplnbjgkhmbcaaGreatDoor
namespace Go.Proofs.YtkplnbjgkhmbcaaGreatDoor
open Go.RowKit
set_option linter.unusedVariables false
def IRow (k:IntKind) (w:World) (b:Nat) (l:List Int):Prop:=
 (∀j (h:j<l.length),w.cell? ⟨b,j,none⟩=some (.int k l[j]))∧ ∀j,j<l.length→w.frozen? ⟨b,j,none⟩=false
theorem IRow.drew {k:IntKind} {w:World} {b:Nat} {l:List Int} (h:IRow k w b l):IRow k w.drew b l:=h
theorem lt_of_cell {w:World} {b j:Nat} {v:Value} (h:w.cell? ⟨b,j,none⟩=some v):b<w.heap.size:=by
 rcases Nat.lt_or_ge b w.heap.size with h1|h1
 ·exact h1
 ·simp[World.cell?,Array.getElem?_eq_none h1] at h
theorem IRow.below {k:IntKind} {w w':World} {b B:Nat} {l:List Int} (h:IRow k w b l) (hb:Below B w w') (hB:b<B):IRow k w' b l:=
 ⟨fun j hj=>by rw[hb.cell (p:=⟨b,j,none⟩) hB];exact h.1 j hj,fun j hj=>by rw[hb.frozen (p:=⟨b,j,none⟩) hB];exact h.2 j hj⟩
theorem cell_setCell_ne (w:World) (p q:Addr) (v:Value) (h:p.block≠q.block∨p.off≠q.off):(w.setCell p v).cell? q=w.cell? q:=by
 simp only[World.cell?,World.setCell,Array.getElem?_modify]
 by_cases hb:p.block=q.block
 ·have ho:p.off≠q.off:=by rcases h with h|h;exact absurd hb h;exact h
  rw[if_pos hb]
  cases w.heap[q.block]? with
  |none=>rfl
  |some o=>
   cases o<;>simp
   split
   ·rfl
   ·split
    ·rfl
    ·rw[Array.getElem?_setIfInBounds_ne ho]
 ·rw[if_neg hb]
theorem frozen_setCell (w:World) (p q:Addr) (v:Value):(w.setCell p v).frozen? q=w.frozen? q:=by
 by_cases e:p.block=q.block
 ·simp only[World.frozen?,World.setCell,Array.getElem?_modify]
  rw[if_pos e]
  cases w.heap[q.block]? with
  |none=>rfl
  |some o=>cases o<;>simp
 ·simp only[World.frozen?,World.setCell,Array.getElem?_modify]
  rw[if_neg e]
theorem cell_setCell_eq (w:World) (b j:Nat) (u v:Value) (h:w.cell? ⟨b,j,none⟩=some u):(w.setCell ⟨b,j,none⟩ v).cell? ⟨b,j,none⟩=some v:=by
 simp only[World.cell?,World.setCell,Array.getElem?_modify] at h⊢
 cases hh:w.heap[b]? with
 |none=>simp[hh] at h
 |some o=>
  cases o<;>simp[hh] at h⊢
  ·obtain⟨hj,_⟩:=Array.getElem?_eq_some_iff.1 h
   rw[Array.getElem?_setIfInBounds_self_of_lt hj]
theorem IRow.set {k:IntKind} {w:World} {b:Nat} {l:List Int} (h:IRow k w b l) (j:Nat) (hj:j<l.length) (v:Int):
 IRow k (w.setCell ⟨b,j,none⟩ (.int k v)) b (l.set j v):=by
 refine⟨fun i hi=>?_,fun i hi=>?_⟩
 ·have hi':i<l.length:=by simpa using hi
  by_cases e:j=i
  ·subst e
   rw[cell_setCell_eq w b j _ _ (h.1 j hj)]
   simp
  ·rw[cell_setCell_ne w ⟨b,j,none⟩ ⟨b,i,none⟩ _ (Or.inr e),h.1 i hi']
   simp[List.getElem_set_ne e]
 ·rw[frozen_setCell]
  exact h.2 i (by simpa using hi)
theorem IRow.setOther {k:IntKind} {w:World} {b:Nat} {l:List Int} (h:IRow k w b l) (p:Addr) (v:Value) (hp:p.block≠b):IRow k (w.setCell p v) b l:=
 ⟨fun j hj=>by rw[cell_setCell_ne w p ⟨b,j,none⟩ v (Or.inl hp)];exact h.1 j hj,fun j hj=>by rw[frozen_setCell];exact h.2 j hj⟩
theorem IRow.alloc {k:IntKind} {w:World} {b:Nat} {l:List Int} (h:IRow k w b l) (hb:b<w.heap.size) (o:Obj):IRow k (w.alloc o) b l:=
 h.below ((Below.refl w.heap.size w).alloc (Nat.le_refl _) o) hb
theorem irow_step {k:IntKind} {W wr:World} {B b:Nat} {l:List Int} {j:Nat} {v:Int} (hr:IRow k wr b l) (hj:j<l.length) (hb:Below B W wr) (hB:B≤b):
 wr.cell? ⟨b,j,none⟩=some (.int k l[j])∧wr.frozen? ⟨b,j,none⟩=false∧
 IRow k (wr.setCell ⟨b,j,none⟩ (.int k v)) b (l.set j v)∧Below B W (wr.setCell ⟨b,j,none⟩ (.int k v)):=
 ⟨hr.1 j hj,hr.2 j hj,hr.set j hj v,hb.setCell hB _⟩
theorem bcell {W w1:World} (hb:Below W.heap.size W w1):(∀b o,b<W.heap.size→w1.cell? ⟨b,o,none⟩=W.cell? ⟨b,o,none⟩)∧(∀b o,b<W.heap.size→w1.frozen? ⟨b,o,none⟩=W.frozen? ⟨b,o,none⟩):=
 ⟨fun b o h=>hb.cell (p:=⟨b,o,none⟩) h,fun b o h=>hb.frozen (p:=⟨b,o,none⟩) h⟩
theorem add_off (b j:Nat):(⟨b,0,none⟩:Addr).add j=⟨b,j,none⟩:=by
 unfold Addr.add;split<;>simp_all
end Go.Proofs.YtkplnbjgkhmbcaaGreatDoor
namespace Go.Proofs.YtkplnbjgkhmbcaaGreatDoor
open Go.RowKit Go.Proofs.YtkplnbjgkhmbcaaGreatDoorW.PrintWords Go.Proofs.YtkplnbjgkhmbcaaGreatDoorW.PrintLast Go.Proofs.YtkplnbjgkhmbcaaGreatDoorW.PrintMore Go.Proofs.YtkplnbjgkhmbcaaGreatDoor.PFnCompare Go.Proofs.YtkplnbjgkhmbcaaGreatDoor.PCmp Go.Proofs.YtkplnbjgkhmbcaaGreatDoor.PbytesOf
set_option linter.unusedVariables false
theorem wrap_in (i:Int) (h0: -9223372036854775808≤i) (h1:i≤9223372036854775807):wrap64 i=i:=by unfold wrap64;omega
theorem rd_at (l:List Int) (i:Nat) (h:i<l.length):rd l (i:Int)=l[i]:=by
 unfold rd
 rw[Int.toNat_natCast,List.getD_eq_getElem?_getD,List.getElem?_eq_getElem h]
 rfl
theorem cut_loop (l:List Int) (hn:l.length<140737488355328): ∀(d:Nat) (k i:Nat),i≤l.length→l.length-i=d→d<k→spec_cut.l0 k l (i:Int)=some ((l.drop i).dropWhile (fun x=>decide (x=0))):=by
 intro d
 induction d with
 |zero=>
  intro k i hi hd hk
  obtain⟨k,rfl⟩: ∃m,k=m+1:=⟨k-1,by omega⟩
  obtain rfl:i=l.length:=by omega
  simp only[spec_cut.l0]
  rw[if_neg (by omega)]
  simp
 |succ d ih=>
  intro k i hi hd hk
  obtain⟨k,rfl⟩: ∃m,k=m+1:=⟨k-1,by omega⟩
  have hlt:i<l.length:=by omega
  have e:l.drop i=l[i]::l.drop (i+1):=List.drop_eq_getElem_cons hlt
  simp only[spec_cut.l0]
  rw[if_pos (by omega),if_pos (by omega),rd_at l i hlt]
  by_cases hz:l[i]=0
  ·rw[if_pos hz,wrap_in _ (by omega) (by omega)]
   have:=ih k (i+1) (by omega) (by omega) (by omega)
   rw[show((i:Int)+1)=((i+1:Nat):Int) from by omega,this,e,List.dropWhile_cons_of_pos (by simpa using hz)]
  ·rw[if_neg hz,e,List.dropWhile_cons_of_neg (by simpa using hz),←e]
   simp only[Option.bind_some]
   rw[if_pos (by omega),if_pos (by simp;omega)]
   simp
theorem cut_is (l:List Int) (k:Nat) (hn:l.length<140737488355328) (hk:l.length<k):spec_cut.f k l=some (cutL l):=by
 have:=cut_loop l hn l.length k 0 (by omega) (by omega) hk
 unfold spec_cut.f
 simpa [cutL] using this
def bytes8 (u:Int):List Int:=[u/72057594037927936%256,u/281474976710656%256,u/1099511627776%256,u/4294967296%256,u/16777216%256,u/65536%256,u/256%256,u%256]
theorem bytes8_bytes (u:Int) (h:0≤u):Bytes (bytes8 u):=by
 intro x hx
 simp only[bytes8,List.mem_cons,List.not_mem_nil,or_false] at hx
 rcases hx with rfl|rfl|rfl|rfl|rfl|rfl|rfl|rfl<;>omega
theorem bytes8_num (u:Int) (h:0≤u) (h1:u<18446744073709551616):beN (bytes8 u)=u:=by
 simp only[beN,bytes8,List.foldl_cons,List.foldl_nil]
 omega
theorem bytesOf_is (u:Int) (k:Nat) (hk:9<k):spec_bytesOf.f k u=some (bytes8 u):=by
 obtain⟨k,rfl⟩: ∃m,k=m+9:=⟨k-9,by omega⟩
 unfold spec_bytesOf.f
 rw[if_pos (by omega)]
 simp[spec_bytesOf.l0,wrap64,bytes8,List.replicate]
 omega
def val (neg:Bool) (l:List Int):Int:=if neg then-beN l else beN l
structure Good (neg:Bool) (l:List Int):Prop where
 bytes:Bytes l
 lead:Lead l
 zero:l=[]→neg=false
 short:l.length<70368744177664
theorem good_of (neg:Bool) (l:List Int) (h:Bytes l) (hl:l.length<70368744177664):Good (neg&&decide (0<(cutL l).length)) (cutL l):=
 ⟨cutL_bytes l h,cutL_lead l,fun e=>by rw[e];simp,by have:=cutL_length l;omega⟩
theorem Good.pos {neg:Bool} {l:List Int} (g:Good neg l) (h:l≠[]):0<beN l:=by
 have h1:=beN_lead l g.bytes g.lead h
 have h2:=pow_pos (l.length-1)
 omega
theorem val_of (neg:Bool) (l:List Int) (h:Bytes l):val (neg&&decide (0<(cutL l).length)) (cutL l)=val neg l:=by
 unfold val
 rw[cutL_num]
 cases neg
 ·simp
 ·by_cases h0:0<(cutL l).length
  ·simp[h0]
  ·have:cutL l=[]:=List.eq_nil_of_length_eq_zero (by omega)
   have h2:=cutL_num l
   rw[this,beN_nil] at h2
   simp[h0,←h2]
theorem sgn_neg (x:Int):sgn (-x)= -sgn x:=by unfold sgn;split<;>split<;>(try split)<;>omega
theorem sgn_vals (x:Int):sgn x= -1∨sgn x=0∨sgn x=1:=by unfold sgn;split<;>(try split)<;>omega
theorem sgn_lt (x:Int):sgn x<0↔x<0:=by unfold sgn;split<;>(try split)<;>omega
theorem sgn_eq (x:Int):sgn x=0↔x=0:=by unfold sgn;split<;>(try split)<;>omega
theorem sgn_gt (x:Int):0<sgn x↔0<x:=by unfold sgn;split<;>(try split)<;>omega
theorem c_mk {k:IntKind} {w:World} {b o:Nat} {l:List Int} (h1:l.length≤9223372036854775807) (h: ∀j (h:j<l.length),w.cell? ⟨b,o+j,none⟩=some (.int k l[j])):
 Kd.C (Kd.int k) w (some ⟨b,o,none⟩) l.length l:=by
 refine⟨rfl,h1,fun _=>⟨_,rfl,fun j p hp=>⟨[.int k p],rfl,rfl,fun i u hu=>?_⟩⟩⟩
 obtain⟨hj,rfl⟩:=List.getElem?_eq_some_iff.1 hp
 have hi:i=0:=by
  rcases i with _|i
  ·rfl
  ·simp at hu
 subst hi
 have hu':Value.int k l[j]=u:=by simpa using hu
 rw[←hu',←h j hj]
 congr 1
 show Addr.add _ (j*1+0)=_
 unfold Addr.add
 split
 ·simp_all
 ·simp
theorem c_nil {k:IntKind} {w:World}:Kd.C (Kd.int k) w none 0 []:=⟨rfl,by omega,fun h=>absurd h (by omega)⟩
theorem c_get {k:IntKind} {w:World} {A:Option Addr} {l:List Int} (h:Kd.C (Kd.int k) w A l.length l) (hne:l≠[]):
 ∃b o,A=some ⟨b,o,none⟩∧ ∀j (h:j<l.length),w.cell? ⟨b,o+j,none⟩=some (.int k l[j]):=by
 have hpos:0<l.length:=List.length_pos_iff.2 hne
 obtain⟨ad,rfl,hc⟩:=h.2.2 hpos
 have cell: ∀j (h:j<l.length),w.cell? (ad.add j)=some (.int k l[j]):=by
  intro j hj
  obtain⟨c,h1,h2,h3⟩:=hc j _ (List.getElem?_eq_getElem hj)
  have h2':c=[.int k l[j]]:=h2
  have:=h3 0 (.int k l[j]) (by rw[h2'];rfl)
  rw[show j*(Kd.int k).sz+0=j from by show j*1+0=j;omega] at this
  exact this
 obtain⟨b,o,sp⟩:=ad
 have h0:=cell 0 hpos
 have hs:sp=none:=by
  have e:(⟨b,o,sp⟩:Addr).add 0=⟨b,o,sp⟩:=by unfold Addr.add;simp
  rw[e] at h0
  unfold World.cell? at h0
  split at h0
  ·split at h0
   ·cases h0
   ·rename_i hn;cases sp with
    |none=>rfl
    |some x=>exact absurd rfl hn
  ·cases h0
 subst hs
 refine⟨b,o,rfl,fun j hj=>?_⟩
 have:=cell j hj
 rw[←this]
 congr 1
 unfold Addr.add
 split
 ·simp_all
 ·rfl
def Sl (k:IntKind) (B:Nat) (w:World) (v:Value) (l:List Int):Prop:=
 ∃A c,v= .slice A l.length c∧l.length≤c∧l.length≤9223372036854775807∧(l≠[]→ ∃b o,A=some ⟨b,o,none⟩∧B≤b∧b<w.heap.size∧ ∀j (h:j<l.length),w.cell? ⟨b,o+j,none⟩=some (.int k l[j]))
section
variable {k:IntKind} {B B':Nat} {w w':World} {v:Value} {l:List Int}
theorem Sl.mono (h:Sl k B w v l) (hB:B'≤B):Sl k B' w v l:=by
 obtain⟨A,c,rfl,h1,h2,h3⟩:=h
 exact⟨A,c,rfl,h1,h2,fun hne=>by obtain⟨b,o,rfl,hb,hlt,hc⟩:=h3 hne;exact⟨b,o,rfl,Nat.le_trans hB hb,hlt,hc⟩⟩
theorem Sl.below (h:Sl k B w v l) (hb:Below w.heap.size w w'):Sl k B w' v l:=by
 obtain⟨A,c,rfl,h1,h2,h3⟩:=h
 exact⟨A,c,rfl,h1,h2,fun hne=>by obtain⟨b,o,rfl,hB,hlt,hc⟩:=h3 hne;exact⟨b,o,rfl,hB,Nat.lt_of_lt_of_le hlt hb.size,fun j hj=>by rw[hb.cell (p:=⟨b,o+j,none⟩) hlt];exact hc j hj⟩⟩
theorem Sl.setCell (h:Sl k B w v l) {p:Addr} (u:Value) (hp:p.block<B):Sl k B (w.setCell p u) v l:=by
 obtain⟨A,c,rfl,h1,h2,h3⟩:=h
 exact⟨A,c,rfl,h1,h2,fun hne=>by obtain⟨b,o,rfl,hB,hlt,hc⟩:=h3 hne;exact⟨b,o,rfl,hB,by simpa [World.setCell] using hlt,fun j hj=>by rw[cell_setCell_ne w p ⟨b,o+j,none⟩ u (Or.inl (by show p.block≠b;omega))];exact hc j hj⟩⟩
theorem Sl.alloc (h:Sl k B w v l) (o:Obj):Sl k B (w.alloc o) v l:=h.below ((Below.refl w.heap.size w).alloc (Nat.le_refl _) o)
theorem Sl.c (h:Sl k B w v l): ∃A c,v= .slice A l.length c∧l.length≤c∧Kd.C (Kd.int k) w A l.length l:=by
 obtain⟨A,c,rfl,h1,h2,h3⟩:=h
 refine⟨A,c,rfl,h1,?_⟩
 by_cases hne:l=[]
 ·subst hne
  exact⟨rfl,by simp,fun h=>absurd h (by simp)⟩
 ·obtain⟨b,o,rfl,_,_,hc⟩:=h3 hne
  exact c_mk h2 hc
theorem Sl.nil:Sl k B w (.slice none 0 0) []:=⟨none,0,rfl,Nat.le_refl _,by simp,fun h=>absurd rfl h⟩
theorem r_sl {e base:Nat} {ok:Nat→Prop} (h:Kd.R (Kd.int k) e w base ok v l):Sl k base w v l:=by
 obtain⟨A,c,rfl,h1,hC⟩:=Kd.R_reads h
 refine⟨A,c,rfl,h1,hC.2.1,fun hne=>?_⟩
 obtain⟨b,o,rfl,hc⟩:=c_get hC hne
 obtain⟨_,inner,ho,_⟩:=h
 exact⟨b,o,rfl,own_base ho b rfl,own_lt ho b rfl,hc⟩
theorem IRow.sl' (h:IRow k w B l) (hb:B<w.heap.size) {c:Nat} (h1:l.length≤c) (h2:l.length≤9223372036854775807):Sl k B w (.slice (some ⟨B,0,none⟩) l.length c) l:=
 ⟨_,_,rfl,h1,h2,fun _=>⟨B,0,rfl,Nat.le_refl _,hb,fun j hj=>by rw[Nat.zero_add];exact h.1 j hj⟩⟩
end
end Go.Proofs.YtkplnbjgkhmbcaaGreatDoor
namespace Go.Proofs.YtkplnbjgkhmbcaaGreatDoor
open Go.RowKit Go.Proofs.YtkplnbjgkhmbcaaGreatDoorW.PrintWords Go.Proofs.YtkplnbjgkhmbcaaGreatDoorW.PrintLast Go.Proofs.YtkplnbjgkhmbcaaGreatDoorW.PrintMore Go.Proofs.YtkplnbjgkhmbcaaGreatDoor.PFnCompare Go.Proofs.YtkplnbjgkhmbcaaGreatDoor.PCmp Go.Proofs.YtkplnbjgkhmbcaaGreatDoor.PbytesOf
set_option linter.unusedVariables false
set_option linter.unusedSimpArgs false
theorem cut_c (B:Nat) (v:Value) (l:List Int) (w:World) (h:Sl .u8 B w v l) (hn:l.length<140737488355328):
 Calls Tryz.prog 51 #[v] w fun e w'=> ∃v',e= .returned v'∧Sl .u8 w.heap.size w' v' (cutL l)∧Below w.heap.size w w':=by
 obtain⟨A,c,rfl,h1,hC⟩:=h.c
 refine(spec_cut.calls (l.length+1) A c l _ w hC h1 (cut_is l _ hn (by omega))).mono ?_
 rintro e w' ⟨v',rfl,hr,hb⟩
 exact⟨v',rfl,r_sl hr,hb⟩
def SInt (B:Nat) (w:World) (v:Value) (n:Bool) (l:List Int):Prop:= ∃s,v= .agg #[.bool n,s]∧Sl .u8 B w s l
set_option maxRecDepth 100000 in
theorem of_c (neg:Bool) (B:Nat) (v:Value) (l:List Int) (w:World) (h:Sl .u8 B w v l) (hn:l.length<140737488355328):
 Calls Tryz.prog 24 #[.bool neg,v] w fun e w'=> ∃v',e= .returned v'∧SInt w.heap.size w' v' (neg&&decide (0<(cutL l).length)) (cutL l)∧Below w.heap.size w w':=by
 have H:=Lib.hid h
 clear h
 have hb0: ∀o,Below w.heap.size w (w.alloc o):=fun o=>(Below.refl w.heap.size w).alloc (Nat.le_refl _) o
 cases neg
 all_goals
  go_enter Tryz.func24,Tryz.ntmps24
  go_wp2_with (go_at_call 51;refine(cut_c B v l _ (H.out.alloc _) hn).mono ?_;rintro e w1 ⟨v1,rfl,hs1,hb1⟩;have HS:=Lib.hid hs1;have HB:=Lib.hid hb1;obtain⟨A1,c1,hv1,_⟩:=hs1.c;subst hv1;obtain⟨hc1,hf1⟩:=bcell hb1;have hsz1:=hb1.size;clear hs1 hb1)
 all_goals
  refine bodyPost_ret (v:= .agg #[.bool _, .slice A1 (cutL l).length c1]) (by simp[results,Tryz.results24,go_sem,hc1]) rfl ⟨_,rfl,⟨_,rfl,?_⟩,?_⟩
  ·exact((HS.out.setCell (p:=⟨w.heap.size,0,none⟩) _ (by simp)).setCell (p:=⟨w.heap.size,1,none⟩) _ (by simp)).mono (by simp)
  ·exact(((hb0 _).trans (HB.out.mono (by simp))).setCell (Nat.le_refl _) _).setCell (Nat.le_refl _) _
set_option maxRecDepth 100000 in
theorem bytesOf_c (u:Int) (w:World):Calls Tryz.prog 127 #[.int .u64 u] w fun e w'=> ∃v',e= .returned v'∧Sl .u8 w.heap.size w' v' (bytes8 u)∧Below w.heap.size w w':=by
 refine(spec_bytesOf.calls 10 u _ w (bytesOf_is u 10 (by omega))).mono ?_
 rintro e w' ⟨v',rfl,hr,hb⟩
 exact⟨v',rfl,r_sl hr,hb⟩
theorem cmp_num (n1 n2:Bool) (a b:List Int) (ga:Good n1 a) (gb:Good n2 b):
 sgn (val n1 a-val n2 b)=if sgn (val n1 a)=sgn (val n2 b) then(if n1 then sgn (beN b-beN a) else sgn (beN a-beN b)) else if sgn (val n1 a)<sgn (val n2 b) then-1 else 1:=by
 have sa:=ga.short
 have sb:=gb.short
 by_cases hs:sgn (val n1 a)=sgn (val n2 b)
 ·rw[if_pos hs]
  by_cases hn:n1=true
  ·subst hn
   rw[if_pos rfl]
   have ha:a≠[]:=fun e=>by have:=ga.zero e;cases this
   have hp:=ga.pos ha
   have h1:val true a<0:=by simp[val];omega
   have h2:val n2 b<0:=by rw[←sgn_lt,←hs,sgn_lt];exact h1
   have h3:n2=true:=by
    cases n2
    ·have:=(beN_bd b gb.bytes).1;simp[val] at h2;omega
    ·rfl
   subst h3
   simp[val]
   congr 1;omega
  ·have hn':n1=false:=by simpa using hn
   subst hn'
   rw[if_neg (by simp)]
   have h1:0≤val false a:=by have:=(beN_bd a ga.bytes).1;simpa [val] using this
   have h2:0≤val n2 b:=by
    have: ¬sgn (val n2 b)<0:=by rw[←hs,sgn_lt];omega
    rw[sgn_lt] at this;omega
   have h3:val n2 b=beN b:=by
    cases n2
    ·rfl
    ·have hb:b≠[]:=fun e=>by have:=gb.zero e;cases this
     have:=gb.pos hb
     simp[val] at h2;omega
   rw[h3]
   rfl
 ·rw[if_neg hs]
  have ca:=sgn_vals (val n1 a)
  have cb:=sgn_vals (val n2 b)
  have la:=sgn_lt (val n1 a)
  have lb:=sgn_lt (val n2 b)
  have ea:=sgn_eq (val n1 a)
  have eb:=sgn_eq (val n2 b)
  have pa:=sgn_gt (val n1 a)
  have pb:=sgn_gt (val n2 b)
  by_cases hlt:sgn (val n1 a)<sgn (val n2 b)
  ·rw[if_pos hlt]
   have:val n1 a-val n2 b<0:=by omega
   have:=(sgn_lt _).2 this
   have:=sgn_vals (val n1 a-val n2 b)
   omega
  ·rw[if_neg hlt]
   have:0<val n1 a-val n2 b:=by omega
   have:=(sgn_gt _).2 this
   have:=sgn_vals (val n1 a-val n2 b)
   omega
theorem signH_num {n:Bool} {l:List Int} (g:Good n l):sgn (val n l)=if l.length=0 then 0 else if n then-1 else 1:=by
 by_cases h:l=[]
 ·subst h
  have:=g.zero rfl
  subst this
  simp[val,beN,sgn]
 ·have hp:=g.pos h
  have hl:l.length≠0:=fun e=>h (List.eq_nil_of_length_eq_zero e)
  rw[if_neg hl]
  cases n
  ·simp[val,sgn]
   rw[if_neg (by omega),if_neg (by omega)]
  ·unfold sgn val
   rw[if_pos (by simp;omega)]
   simp
set_option maxRecDepth 100000 in
theorem zeroH_c (n:Bool) (A:Option Addr) (m c:Nat) (w:World):Calls Tryz.prog 113 #[.agg #[.bool n, .slice A m c]] w fun e w'=>e= .returned (.bool ((m:Int)==0))∧Below w.heap.size w w':=by
 go_enter Tryz.func113,Tryz.ntmps113
 go_wp2
 go_ret
 exact⟨rfl,(Below.refl _ w).alloc (Nat.le_refl _) _⟩
set_option maxRecDepth 100000 in
theorem signH_c (n:Bool) (A:Option Addr) (c:Nat) (l:List Int) (w:World) (g:Good n l):Calls Tryz.prog 77 #[.agg #[.bool n, .slice A l.length c]] w fun e w'=>e= .returned (.int .i64 (sgn (val n l)))∧Below w.heap.size w w':=by
 rw[signH_num g]
 clear g
 obtain⟨W0,hW0⟩: ∃W,W=w.alloc (.cells #[.bool n, .slice A l.length c] 54):=⟨_,rfl⟩
 have hb:Below w.heap.size w W0:=by rw[hW0];exact(Below.refl _ w).alloc (Nat.le_refl _) _
 have q0:W0.cell? ⟨w.heap.size,0,none⟩=some (.bool n):=by rw[hW0];go_simp
 have q1:W0.cell? ⟨w.heap.size,1,none⟩=some (.slice A l.length c):=by rw[hW0];go_simp
 have hl:w.heap.size<W0.heap.size:=lt_of_cell q0
 have HZ:=Lib.hid fun W=>zeroH_c n A l.length c W
 have HB:=Lib.hid hb
 obtain⟨z,hz⟩: ∃z,((l.length:Int)==0)=z:=⟨_,rfl⟩
 have HR:Hid ((if l.length=0 then 0 else if n then-1 else 1:Int)=if z then 0 else if n then-1 else 1):=Lib.hid (by
  rw[←hz]
  by_cases h:l.length=0
  ·have e:((l.length:Int)==0)=true:=by simp[h]
   rw[if_pos h,e]
   rfl
  ·have e:((l.length:Int)==0)=false:=by simp;exact fun e=>h (by rw[e];rfl)
   rw[if_neg h,e]
   rfl)
 rw[hz] at HZ
 rw[HR.out]
 clear hb hz HR
 cases z
 ·cases n
  all_goals
   go_enter Tryz.func77,Tryz.ntmps77
   go_wp2_with fail
   rw[←hW0]
   clear hW0
   go_wp2_with (go_at_call 113;(with_reducible refine(HZ.out _).mono ?_);rintro e w1 ⟨rfl,hb1⟩;have HB1:=Lib.hid hb1;clear hb1;have q2:=(HB1.out.cell (p:=⟨w.heap.size,0,none⟩) hl).trans q0)
   go_ret
   exact⟨rfl,HB.out.trans (HB1.out.mono HB.out.size)⟩
 ·go_enter Tryz.func77,Tryz.ntmps77
  go_wp2_with fail
  rw[←hW0]
  clear hW0
  go_wp2_with (go_at_call 113;(with_reducible refine(HZ.out _).mono ?_);rintro e w1 ⟨rfl,hb1⟩;have HB1:=Lib.hid hb1;clear hb1)
  go_ret
  exact⟨rfl,HB.out.trans (HB1.out.mono HB.out.size)⟩
set_option maxRecDepth 100000 in
set_option maxHeartbeats 1000000 in
theorem orderH_c (B1 B2:Nat) (v1 v2:Value) (a b:List Int) (w:World) (h1:Sl .u8 B1 w v1 a) (h2:Sl .u8 B2 w v2 b) (hn:a.length<140737488355328):Calls Tryz.prog 78 #[v1,v2] w fun e w'=>e= .returned (.int .i64 (ordC a b))∧Below w.heap.size w w':=by
 obtain⟨A,c,rfl,_,_,k1⟩:=h1
 obtain⟨A2,c2,rfl,_,_,k2⟩:=h2
 have HK1:=Lib.hid k1
 have HK2:=Lib.hid k2
 clear k1 k2
 by_cases h:a.length=b.length
 ·have d1:((a.length:Int) !=(b.length:Int))=false:=by simp[h]
  have HL:=Lib.hid h
  have HR:Hid (ordC a b=lexC (a.drop 0) (b.drop 0)):=Lib.hid (by unfold ordC;rw[if_pos h];rfl)
  clear h
  go_enter Tryz.func78,Tryz.ntmps78
  go_wp2_with fail
  go_loopw [5] (fun i wr=> ∃j:Nat,j≤a.length∧i= .int .i64 j∧Hid (ordC a b=lexC (a.drop j) (b.drop j))∧Hid (Below w.heap.size w wr)) (fun i _=>a.length-(intOf i).toNat)
  case atStart=>exact⟨0,Nat.zero_le _,rfl,HR,Lib.hid (Below.refl _ _)⟩
  case round=>
   obtain⟨j,hj0,rfl,HQ,HB⟩:=hrel
   by_cases hlt:j<a.length
   ·have hlt2:j<b.length:=by have:=HL.out;omega
    obtain⟨M1,o1,rfl,_,l1,r1⟩:=HK1.out (fun e=>by rw[e] at hlt;simp at hlt)
    obtain⟨M2,o2,rfl,_,l2,r2⟩:=HK2.out (fun e=>by rw[e] at hlt2;simp at hlt2)
    have q1:=(HB.out.cell (p:=⟨M1,o1+j,none⟩) l1).trans (r1 j hlt)
    have q2:=(HB.out.cell (p:=⟨M2,o2+j,none⟩) l2).trans (r2 j hlt2)
    have e:=List.drop_eq_getElem_cons hlt
    have e2:=List.drop_eq_getElem_cons hlt2
    have HQ2:Hid (ordC a b=if a[j]=b[j] then lexC (a.drop (j+1)) (b.drop (j+1)) else if a[j]<b[j] then-1 else 1):=Lib.hid (by rw[HQ.out,e,e2,lexC])
    obtain⟨x,hx⟩: ∃x,a[j]=x:=⟨_,rfl⟩
    obtain⟨y,hy⟩: ∃y,b[j]=y:=⟨_,rfl⟩
    rw[hx,hy] at HQ2
    rw[hx] at q1
    rw[hy] at q2
    have HS:=Lib.hid (And.intro q1 q2)
    clear HQ hx hy e e2 r1 r2
    by_cases hz:x=y
    ·have d2:(x !=y)=false:=by simp[hz]
     have HQ3:=Lib.hid (HQ2.out.trans (if_pos hz))
     clear HQ2 hz
     go_wp2_with fail
     go_region_held3 (fun W=>W.cell? ⟨M1,o1+j,none⟩=some (.int .u8 x)∧W.cell? ⟨M2,o2+j,none⟩=some (.int .u8 y)) (exact⟨q1,q2⟩) (fail)
     all_goals
      go_wp2_with fail
      go_roundw
      case rel=>exact⟨j+1,by omega,by go_num,HQ3,by first|exact HB|exact Lib.hid HB.out.drew⟩
      case measure=>simp[intOf];omega
    ·have d2:(x !=y)=true:=by simp[hz]
     have HQ3:=Lib.hid (HQ2.out.trans (if_neg hz))
     clear HQ2 hz
     go_wp2_with fail
     go_region_held3 (fun W=>W.cell? ⟨M1,o1+j,none⟩=some (.int .u8 x)∧W.cell? ⟨M2,o2+j,none⟩=some (.int .u8 y)) (exact⟨q1,q2⟩) (fail)
     all_goals
      go_wp2_with fail
      go_region_held3 (fun W=>W.cell? ⟨M1,o1+j,none⟩=some (.int .u8 x)∧W.cell? ⟨M2,o2+j,none⟩=some (.int .u8 y)) (first|(with_reducible exact⟨q1,q2⟩)|exact HS.out) (fail)
      all_goals
       by_cases hxy:x<y
       ·have d3:decide (x<y)=true:=by simp[hxy]
        have HZ:=Lib.hid (HQ3.out.trans (if_pos hxy))
        clear HQ3
        go_wp2_with fail
        (try rw[Exit.noGoto_ret])
        go_ret
        exact⟨by rw[HZ.out];rfl,by first|exact HB.out|exact HB.out.drew|exact HB.out.drew.drew⟩
       ·have d3:decide (x<y)=false:=by simp;omega
        have HZ:=Lib.hid (HQ3.out.trans (if_neg hxy))
        clear HQ3
        go_wp2_with fail
        (try rw[Exit.noGoto_ret])
        go_ret
        exact⟨by rw[HZ.out];rfl,by first|exact HB.out|exact HB.out.drew|exact HB.out.drew.drew⟩
   ·have HZ:Hid (ordC a b=0):=Lib.hid (by rw[HQ.out,show j=a.length by omega,List.drop_length];rfl)
    have hlt': ¬((j:Int)<a.length):=by omega
    clear HK1 HK2 hlt hj0
    go_wp2
    go_ret
    exact⟨by rw[HZ.out];rfl,HB.out⟩
 ·have d1:((a.length:Int) !=(b.length:Int))=true:=by simp;exact fun e=>h (by omega)
  have HR:Hid (ordC a b=if a.length<b.length then-1 else 1):=Lib.hid (by unfold ordC;rw[if_neg h])
  clear h
  by_cases h2:a.length<b.length
  ·have HR2:=Lib.hid (HR.out.trans (if_pos h2))
   go_enter Tryz.func78,Tryz.ntmps78
   go_wp2
   go_ret
   exact⟨by rw[HR2.out];rfl,Below.refl _ _⟩
  ·have HR2:=Lib.hid (HR.out.trans (if_neg h2))
   go_enter Tryz.func78,Tryz.ntmps78
   go_wp2
   go_ret
   exact⟨by rw[HR2.out];rfl,Below.refl _ _⟩
set_option maxRecDepth 100000 in
theorem cmp_c (B1 B2:Nat) (v1 v2:Value) (n1 n2:Bool) (a b:List Int) (w:World) (h1:SInt B1 w v1 n1 a) (h2:SInt B2 w v2 n2 b) (ga:Good n1 a) (gb:Good n2 b):
 Calls Tryz.prog 42 #[v1,v2] w fun e w'=>e= .returned (.int .i64 (sgn (val n1 a-val n2 b)))∧Below w.heap.size w w':=by
 obtain⟨s1,rfl,t1⟩:=h1
 obtain⟨s2,rfl,t2⟩:=h2
 obtain⟨A1,c1,rfl,_⟩:=t1.c
 obtain⟨A2,c2,rfl,_⟩:=t2.c
 have sa:=ga.short
 have sb:=gb.short
 have HS1:=Lib.hid fun W=>signH_c n1 A1 c1 a W ga
 have HS2:=Lib.hid fun W=>signH_c n2 A2 c2 b W gb
 have HO1:=Lib.hid fun W (hW:Below w.heap.size w W)=>orderH_c B1 B2 _ _ a b W (t1.below hW) (t2.below hW) (by omega)
 have HO2:=Lib.hid fun W (hW:Below w.heap.size w W)=>orderH_c B2 B1 _ _ b a W (t2.below hW) (t1.below hW) (by omega)
 have hres:=cmp_num n1 n2 a b ga gb
 rw[←ordC_num a b ga.bytes gb.bytes ga.lead gb.lead,←ordC_num b a gb.bytes ga.bytes gb.lead ga.lead] at hres
 obtain⟨r,hr⟩: ∃r,sgn (val n1 a-val n2 b)=r:=⟨_,rfl⟩
 obtain⟨s1,e1⟩: ∃s,sgn (val n1 a)=s:=⟨_,rfl⟩
 obtain⟨s2,e2⟩: ∃s,sgn (val n2 b)=s:=⟨_,rfl⟩
 rw[hr,e1,e2] at hres
 rw[e1] at HS1
 rw[e2] at HS2
 rw[hr]
 have HR:=Lib.hid hres
 obtain⟨W0,hW0⟩: ∃W,W=(w.alloc (.cells #[.bool n1, .slice A1 a.length c1] 54)).alloc (.cells #[.bool n2, .slice A2 b.length c2] 54):=⟨_,rfl⟩
 have hb0:Below w.heap.size w W0:=by rw[hW0];exact((Below.refl _ _).alloc (Nat.le_refl _) _).alloc (by simp) _
 have q1:W0.cell? ⟨w.heap.size,0,none⟩=some (.bool n1):=by rw[hW0];go_simp
 have q2:W0.cell? ⟨w.heap.size,1,none⟩=some (.slice A1 a.length c1):=by rw[hW0];go_simp
 have q3:W0.cell? ⟨w.heap.size+1,0,none⟩=some (.bool n2):=by rw[hW0];go_simp
 have q4:W0.cell? ⟨w.heap.size+1,1,none⟩=some (.slice A2 b.length c2):=by rw[hW0];go_simp
 have hz:w.heap.size+1<W0.heap.size:=by rw[hW0];simp
 have HK:Hid (∀W,Below W0.heap.size W0 W→Below w.heap.size w W∧(W.cell? ⟨w.heap.size,0,none⟩=some (.bool n1)∧W.cell? ⟨w.heap.size,1,none⟩=some (.slice A1 a.length c1)∧W.cell? ⟨w.heap.size+1,0,none⟩=some (.bool n2)∧W.cell? ⟨w.heap.size+1,1,none⟩=some (.slice A2 b.length c2))):=Lib.hid fun W hW=>
  ⟨hb0.trans (hW.mono hb0.size),(hW.cell (p:=⟨w.heap.size,0,none⟩) (show w.heap.size<W0.heap.size by omega)).trans q1,(hW.cell (p:=⟨w.heap.size,1,none⟩) (show w.heap.size<W0.heap.size by omega)).trans q2,(hW.cell (p:=⟨w.heap.size+1,0,none⟩) hz).trans q3,(hW.cell (p:=⟨w.heap.size+1,1,none⟩) hz).trans q4⟩
 have HB:Hid (Below W0.heap.size W0 W0):=Lib.hid (Below.refl _ _)
 clear t1 t2 ga gb hres hr e1 e2 hb0 sa sb
 have key:s1=s2∨(¬s1=s2∧s1<s2)∨(¬s1=s2∧ ¬s1<s2):=by omega
 rcases key with e|⟨e,e'⟩|⟨e,e'⟩
 ·have d1:(s1 !=s2)=false:=by simp[e]
  rw[if_pos e] at HR
  clear e
  go_enter Tryz.func42,Tryz.ntmps42
  go_wp2_with fail
  rw[←hW0]
  clear hW0
  go_region_held3 (fun W=>W.cell? ⟨w.heap.size,0,none⟩=some (.bool n1)∧W.cell? ⟨w.heap.size,1,none⟩=some (.slice A1 a.length c1)∧W.cell? ⟨w.heap.size+1,0,none⟩=some (.bool n2)∧W.cell? ⟨w.heap.size+1,1,none⟩=some (.slice A2 b.length c2)) (first|(with_reducible exact⟨q1,q2,q3,q4⟩)|exact(HK.out _ HB.out).2|exact(HK.out _ HB.out.drew).2) (first
  |(go_at_call 77;(with_reducible refine(HS1.out _).mono ?_);rintro e w1 ⟨rfl,hb1⟩;(replace HB:Hid (Below W0.heap.size W0 w1):=Lib.hid (by first|exact HB.out.trans (hb1.mono HB.out.size)|exact HB.out.drew.trans (hb1.mono HB.out.size)));clear hb1)
  |(go_at_call 77;(with_reducible refine(HS2.out _).mono ?_);rintro e w1 ⟨rfl,hb1⟩;(replace HB:Hid (Below W0.heap.size W0 w1):=Lib.hid (by first|exact HB.out.trans (hb1.mono HB.out.size)|exact HB.out.drew.trans (hb1.mono HB.out.size)));clear hb1))
  all_goals
   obtain⟨q1,q2,q3,q4⟩:=(HK.out _ HB.out).2
   cases n1
  all_goals
   go_wp2_with (go_at_call 78;first
    |((with_reducible refine(HO1.out _ (HK.out _ HB.out).1).mono ?_);rintro e w2 ⟨rfl,hb2⟩)
    |((with_reducible refine(HO2.out _ (HK.out _ HB.out).1).mono ?_);rintro e w2 ⟨rfl,hb2⟩))
   go_ret
   exact⟨by rw[HR.out];rfl,(HK.out _ HB.out).1.trans (hb2.mono (HK.out _ HB.out).1.size)⟩
 ·have d1:(s1 !=s2)=true:=by simp[e]
  have d2:decide (s1<s2)=true:=by simp[e']
  rw[if_neg e,if_pos e'] at HR
  clear e e'
  go_enter Tryz.func42,Tryz.ntmps42
  go_wp2_with fail
  rw[←hW0]
  clear hW0
  go_region_held3 (fun W=>W.cell? ⟨w.heap.size,0,none⟩=some (.bool n1)∧W.cell? ⟨w.heap.size,1,none⟩=some (.slice A1 a.length c1)∧W.cell? ⟨w.heap.size+1,0,none⟩=some (.bool n2)∧W.cell? ⟨w.heap.size+1,1,none⟩=some (.slice A2 b.length c2)) (first|(with_reducible exact⟨q1,q2,q3,q4⟩)|exact(HK.out _ HB.out).2|exact(HK.out _ HB.out.drew).2) (first
  |(go_at_call 77;(with_reducible refine(HS1.out _).mono ?_);rintro e w1 ⟨rfl,hb1⟩;(replace HB:Hid (Below W0.heap.size W0 w1):=Lib.hid (by first|exact HB.out.trans (hb1.mono HB.out.size)|exact HB.out.drew.trans (hb1.mono HB.out.size)));clear hb1)
  |(go_at_call 77;(with_reducible refine(HS2.out _).mono ?_);rintro e w1 ⟨rfl,hb1⟩;(replace HB:Hid (Below W0.heap.size W0 w1):=Lib.hid (by first|exact HB.out.trans (hb1.mono HB.out.size)|exact HB.out.drew.trans (hb1.mono HB.out.size)));clear hb1))
  all_goals
   obtain⟨q1,q2,q3,q4⟩:=(HK.out _ HB.out).2
   go_wp2_with fail
   go_region_held3 (fun W=>W.cell? ⟨w.heap.size,0,none⟩=some (.bool n1)∧W.cell? ⟨w.heap.size,1,none⟩=some (.slice A1 a.length c1)∧W.cell? ⟨w.heap.size+1,0,none⟩=some (.bool n2)∧W.cell? ⟨w.heap.size+1,1,none⟩=some (.slice A2 b.length c2)) (first|(with_reducible exact⟨q1,q2,q3,q4⟩)|exact(HK.out _ HB.out).2|exact(HK.out _ HB.out.drew).2) (first
   |(go_at_call 77;(with_reducible refine(HS1.out _).mono ?_);rintro e w1 ⟨rfl,hb1⟩;(replace HB:Hid (Below W0.heap.size W0 w1):=Lib.hid (by first|exact HB.out.trans (hb1.mono HB.out.size)|exact HB.out.drew.trans (hb1.mono HB.out.size)));clear hb1)
   |(go_at_call 77;(with_reducible refine(HS2.out _).mono ?_);rintro e w1 ⟨rfl,hb1⟩;(replace HB:Hid (Below W0.heap.size W0 w1):=Lib.hid (by first|exact HB.out.trans (hb1.mono HB.out.size)|exact HB.out.drew.trans (hb1.mono HB.out.size)));clear hb1))
  all_goals
   go_wp2_with fail
   go_ret
   exact⟨by rw[HR.out];rfl,(HK.out _ HB.out).1⟩
 ·have d1:(s1 !=s2)=true:=by simp[e]
  have d2:decide (s1<s2)=false:=by simp[e']
  rw[if_neg e,if_neg e'] at HR
  clear e e'
  go_enter Tryz.func42,Tryz.ntmps42
  go_wp2_with fail
  rw[←hW0]
  clear hW0
  go_region_held3 (fun W=>W.cell? ⟨w.heap.size,0,none⟩=some (.bool n1)∧W.cell? ⟨w.heap.size,1,none⟩=some (.slice A1 a.length c1)∧W.cell? ⟨w.heap.size+1,0,none⟩=some (.bool n2)∧W.cell? ⟨w.heap.size+1,1,none⟩=some (.slice A2 b.length c2)) (first|(with_reducible exact⟨q1,q2,q3,q4⟩)|exact(HK.out _ HB.out).2|exact(HK.out _ HB.out.drew).2) (first
  |(go_at_call 77;(with_reducible refine(HS1.out _).mono ?_);rintro e w1 ⟨rfl,hb1⟩;(replace HB:Hid (Below W0.heap.size W0 w1):=Lib.hid (by first|exact HB.out.trans (hb1.mono HB.out.size)|exact HB.out.drew.trans (hb1.mono HB.out.size)));clear hb1)
  |(go_at_call 77;(with_reducible refine(HS2.out _).mono ?_);rintro e w1 ⟨rfl,hb1⟩;(replace HB:Hid (Below W0.heap.size W0 w1):=Lib.hid (by first|exact HB.out.trans (hb1.mono HB.out.size)|exact HB.out.drew.trans (hb1.mono HB.out.size)));clear hb1))
  all_goals
   obtain⟨q1,q2,q3,q4⟩:=(HK.out _ HB.out).2
   go_wp2_with fail
   go_region_held3 (fun W=>W.cell? ⟨w.heap.size,0,none⟩=some (.bool n1)∧W.cell? ⟨w.heap.size,1,none⟩=some (.slice A1 a.length c1)∧W.cell? ⟨w.heap.size+1,0,none⟩=some (.bool n2)∧W.cell? ⟨w.heap.size+1,1,none⟩=some (.slice A2 b.length c2)) (first|(with_reducible exact⟨q1,q2,q3,q4⟩)|exact(HK.out _ HB.out).2|exact(HK.out _ HB.out.drew).2) (first
   |(go_at_call 77;(with_reducible refine(HS1.out _).mono ?_);rintro e w1 ⟨rfl,hb1⟩;(replace HB:Hid (Below W0.heap.size W0 w1):=Lib.hid (by first|exact HB.out.trans (hb1.mono HB.out.size)|exact HB.out.drew.trans (hb1.mono HB.out.size)));clear hb1)
   |(go_at_call 77;(with_reducible refine(HS2.out _).mono ?_);rintro e w1 ⟨rfl,hb1⟩;(replace HB:Hid (Below W0.heap.size W0 w1):=Lib.hid (by first|exact HB.out.trans (hb1.mono HB.out.size)|exact HB.out.drew.trans (hb1.mono HB.out.size)));clear hb1))
  all_goals
   go_wp2_with fail
   go_ret
   exact⟨by rw[HR.out];rfl,(HK.out _ HB.out).1⟩
end Go.Proofs.YtkplnbjgkhmbcaaGreatDoor
namespace Go.Proofs.YtkplnbjgkhmbcaaGreatDoor
open Go.RowKit
set_option linter.unusedVariables false
set_option maxRecDepth 100000 in
set_option maxHeartbeats 1000000 in
theorem norm_row (b o c:Nat) (l:List Int) (w:World) (hc:l.length≤c) (hm:c≤140737488355328) (hcell: ∀j (h:j<l.length),w.cell? ⟨b,o+j,none⟩=some (.int .u64 l[j])):
 Calls Tryz.prog 166 #[.slice (some ⟨b,o,none⟩) l.length c] w fun e w'=>w=w'∧ ∃i,i≤l.length∧(∀j (hj:j<l.length),i≤j→l[j]=0)∧(∀h:0<i,∀hl:i-1<l.length,l[i-1]≠0)∧e= .returned (.slice (some ⟨b,o,none⟩) i c):=by
 have HC:=Lib.hid hcell
 clear hcell
 go_enter Tryz.func166,Tryz.ntmps166
 go_wp2
 go_loop [3] (fun v=> ∃i:Nat,i≤l.length∧v= .int .i64 i∧Hid (∀j (hj:j<l.length),i≤j→l[j]=0)) (fun v=>(intOf v).toNat)
 case atStart=>exact⟨l.length,Nat.le_refl _,rfl,fun j hj h=>by omega⟩
 case round=>
  obtain⟨i,hi,rfl,hz⟩:=hrel
  rcases i with _|j
  ·go_wp2
   go_ret
   exact⟨rfl,0,by omega,hz.out,fun h=>by omega,rfl⟩
  ·have hj:j<l.length:=by omega
   have hcj:=HC.out j hj
   by_cases h0:l[j]=0
   ·have h0b:(l[j]==0)=true:=by simp[h0]
    have HZ:Hid (∀q (hq:q<l.length),j≤q→l[q]=0):=by
     intro q hq hle
     by_cases e:q=j
     ·subst e;exact h0
     ·exact hz q hq (by omega)
    clear h0 hz
    go_wp2
    go_round
    case rel=>exact⟨j,by omega,by go_num,HZ⟩
    case measure=>simp[intOf]
   ·have h0b:(l[j]==0)=false:=by simp[h0]
    have H0:=Lib.hid h0
    clear h0
    go_wp2
    go_ret
    exact⟨rfl,j+1,by omega,hz.out,fun _ _=>H0.out,rfl⟩
theorem wordInfo:(Tryz.prog.info? 265).map (fun i=>(i.zero,i.size,i.bytes))=some (some (.int .u64 0),1,8):=by kernel_rfl
theorem irow_zeros (w:World) (k:IntKind) (n m:Nat) (e:TypeId) (h:n≤m):IRow k (w.alloc (.cells (madeCells #[.int k 0] m) e)) w.heap.size (List.replicate n 0):=by
 refine⟨fun j hj=>?_,fun j hj=>?_⟩
 ·rw[List.length_replicate] at hj
  rw[World.cell?_alloc_mark,List.getElem_replicate]
  rw[←Array.getElem?_toList,toList_madeCells_one,List.getElem?_replicate,if_pos (by omega)]
 ·rw[World.frozen?_alloc_mark];simp
set_option maxRecDepth 100000 in
theorem make_nil0 (w:World):Calls Tryz.prog 161 #[.slice none 0 0, .int .i64 0] w fun e w'=>e= .returned (.slice none 0 0)∧w=w':=by
 go_enter Tryz.func161,Tryz.ntmps161
 go_wp2
 go_ret
 exact⟨rfl,rfl⟩
set_option maxRecDepth 100000 in
theorem make_nil (n:Nat) (w:World) (h0:0<n) (h1:n≤4398046511104):
 Calls Tryz.prog 161 #[.slice none 0 0, .int .i64 n] w fun e w'=>
  ∃c,e= .returned (.slice (some ⟨w.heap.size,0,none⟩) n c)∧n≤c∧c≤n+4∧IRow .u64 w' w.heap.size (List.replicate n 0)∧Below w.heap.size w w'∧w'.heap.size=w.heap.size+1:=by
 obtain⟨i,hi,hzz⟩:=Option.map_eq_some_iff.1 wordInfo
 simp only[Prod.mk.injEq] at hzz
 obtain⟨hz,hs,hb⟩:=hzz
 have hmk:=fun(l c:Int) (h0:0≤l) (hlc:l≤c) (hc:c≤4398046511200) (w:World)=>run_make (P:=Tryz.prog) w 194 265 i (.int .u64 0) Tryz.underlying194 hi hz .i64 .i64 l c h0 hlc (by rw[hb];omega) (by omega)
 simp only[hs,Nat.mul_one] at hmk
 have hcl:(Value.int .u64 0).cells=#[.int .u64 0]:=rfl
 rw[hcl] at hmk
 have m1:=hmk 1 1 (by omega) (by omega) (by omega)
 have m2:=hmk n (n+4) (by omega) (by omega) (by omega)
 rw[show((n:Int)+4).toNat=n+4 from by omega,Int.toNat_natCast] at m2
 clear hmk hcl hs hb hi hz
 by_cases h:n=1
 ·subst h
  go_enter Tryz.func161,Tryz.ntmps161
  go_wp2
  go_ret
  exact⟨1,rfl,by omega,by omega,irow_zeros w .u64 1 _ _ (by decide),(Below.refl _ w).alloc (Nat.le_refl _) _,by simp⟩
 ·have hb1:((n:Int)==1)=false:=by simp;omega
  go_enter Tryz.func161,Tryz.ntmps161
  go_wp2
  go_ret
  exact⟨n+4,rfl,by omega,by omega,irow_zeros w .u64 n _ _ (by omega),(Below.refl _ w).alloc (Nat.le_refl _) _,by simp⟩
end Go.Proofs.YtkplnbjgkhmbcaaGreatDoor
namespace Go.Proofs.YtkplnbjgkhmbcaaGreatDoor
open Go.Shelf
def Tryz.lays129_ren:Go.Shelf.Ren:=⟨fun|129=>248|n=>n,fun|3=>3|4=>4|5=>5|9=>9|46=>264|53=>23|n=>n,fun|n=>n⟩
theorem Tryz.lays129:Go.Proofs.Lays.n129 Tryz.prog Tryz.lays129_ren:={
 mixed:=by kernel_rfl
 f129:=Tryz.func248.trans (congrArg some (by kernel_rfl))
 t3:=Tryz.underlying3
 a3:=Tryz.isAgg3
 z3:=Tryz.sizeOf3
 v3:=Tryz.zeroValue3
 t4:=Tryz.underlying4
 a4:=Tryz.isAgg4
 z4:=Tryz.sizeOf4
 v4:=Tryz.zeroValue4
 t5:=Tryz.underlying5
 a5:=Tryz.isAgg5
 z5:=Tryz.sizeOf5
 v5:=Tryz.zeroValue5
 t9:=Tryz.underlying9
 a9:=Tryz.isAgg9
 z9:=Tryz.sizeOf9
 v9:=Tryz.zeroValue9
 t46:=Tryz.underlying264
 a46:=Tryz.isAgg264
 z46:=Tryz.sizeOf264
 v46:=Tryz.zeroValue264
 t53:=Tryz.underlying23
 a53:=Tryz.isAgg23
 z53:=Tryz.sizeOf23
 v53:=Tryz.zeroValue23
}
def Tryz.lays125_ren:Go.Shelf.Ren:=⟨fun|125=>228|128=>247|129=>248|n=>n,fun|3=>3|4=>4|5=>5|9=>9|46=>264|51=>165|53=>23|n=>n,fun|n=>n⟩
theorem Tryz.lays125:Go.Proofs.Lays.n125 Tryz.prog Tryz.lays125_ren:={
 mixed:=by kernel_rfl
 f125:=Tryz.func228.trans (congrArg some (by kernel_rfl))
 f128:=Tryz.func247.trans (congrArg some (by kernel_rfl))
 f129:=Tryz.func248.trans (congrArg some (by kernel_rfl))
 t3:=Tryz.underlying3
 a3:=Tryz.isAgg3
 z3:=Tryz.sizeOf3
 v3:=Tryz.zeroValue3
 t4:=Tryz.underlying4
 a4:=Tryz.isAgg4
 z4:=Tryz.sizeOf4
 v4:=Tryz.zeroValue4
 t5:=Tryz.underlying5
 a5:=Tryz.isAgg5
 z5:=Tryz.sizeOf5
 v5:=Tryz.zeroValue5
 t9:=Tryz.underlying9
 a9:=Tryz.isAgg9
 z9:=Tryz.sizeOf9
 v9:=Tryz.zeroValue9
 t46:=Tryz.underlying264
 a46:=Tryz.isAgg264
 z46:=Tryz.sizeOf264
 v46:=Tryz.zeroValue264
 t51:=Tryz.underlying165
 a51:=Tryz.isAgg165
 z51:=Tryz.sizeOf165
 v51:=Tryz.zeroValue165
 t53:=Tryz.underlying23
 a53:=Tryz.isAgg23
 z53:=Tryz.sizeOf23
 v53:=Tryz.zeroValue23
}
theorem bitsLen (x:Int) (w:World) (h0:0≤x) (h1:x≤18446744073709551615):
 Calls Tryz.prog 228 #[.int .u64 x] w fun e w'=>e= .returned (.int .i64 (Lib.bitLen x.toNat))∧w'=w:=Any.bits_Len Tryz.lays125 x w h0 h1
#print axioms bitsLen
end Go.Proofs.YtkplnbjgkhmbcaaGreatDoor
namespace Go.Proofs.YtkplnbjgkhmbcaaGreatDoor
open Go.RowKit
set_option linter.unusedVariables false
set_option linter.unusedSimpArgs false
theorem or_join32 (a b:Int) (n:Nat) (ha:0≤a) (h2:a<2^n) (hb:0≤b) (hz:b%2^n=0) (h4:b<4294967296) (hn:n≤32):Go.bits .or .u32 a b=a+b:=by
 have hp:(2:Int)^n≤4294967296:=by
  have:2^n≤2^32:=Nat.pow_le_pow_right (by omega) hn
  have h:=Int.ofNat_le.2 this
  simpa using h
 obtain⟨x,rfl⟩:=Int.eq_ofNat_of_zero_le ha
 obtain⟨y,rfl⟩:=Int.eq_ofNat_of_zero_le hb
 rw[u32_or_nat x y (by omega) (by omega),Nat.or_comm,nat_join n y x (by exact_mod_cast hz) (by exact_mod_cast h2)]
 push_cast
 omega
theorem or_join64 (a b:Int) (n:Nat) (ha:0≤a) (h2:a<2^n) (hb:0≤b) (hz:b%2^n=0) (h4:b<18446744073709551616) (hn:n≤64):Go.bits .or .u64 b a=a+b:=by
 have hp:(2:Int)^n≤18446744073709551616:=by
  have:2^n≤2^64:=Nat.pow_le_pow_right (by omega) hn
  have h:=Int.ofNat_le.2 this
  simpa using h
 obtain⟨x,rfl⟩:=Int.eq_ofNat_of_zero_le ha
 obtain⟨y,rfl⟩:=Int.eq_ofNat_of_zero_le hb
 rw[u64_or_nat y x (by omega) (by omega),nat_join n y x (by exact_mod_cast hz) (by exact_mod_cast h2)]
 push_cast
 omega
theorem be32_or (x0 x1 x2 x3:Int) (h0:0≤x0∧x0<256) (h1:0≤x1∧x1<256) (h2:0≤x2∧x2<256) (h3:0≤x3∧x3<256):
 Go.bits .or .u32 (Go.bits .or .u32 (Go.bits .or .u32 x3 (x2*256)) (x1*65536)) (x0*16777216)=beN [x0,x1,x2,x3]:=by
 rw[or_join32 x3 (x2*256) 8 (by omega) (by omega) (by omega) (by omega) (by omega) (by omega),or_join32 _ (x1*65536) 16 (by omega) (by omega) (by omega) (by omega) (by omega) (by omega),or_join32 _ (x0*16777216) 24 (by omega) (by omega) (by omega) (by omega) (by omega) (by omega)]
 simp only[beN,List.foldl_cons,List.foldl_nil]
 omega
set_option maxRecDepth 100000 in
theorem beUint32_c (b o n c:Nat) (x0 x1 x2 x3:Int) (w:World) (h0:0≤x0∧x0<256) (h1:0≤x1∧x1<256) (h2:0≤x2∧x2<256) (h3:0≤x3∧x3<256) (hn:4≤n)
 (c0:w.cell? ⟨b,o,none⟩=some (.int .u8 x0)) (c1:w.cell? ⟨b,o+1,none⟩=some (.int .u8 x1)) (c2:w.cell? ⟨b,o+2,none⟩=some (.int .u8 x2)) (c3:w.cell? ⟨b,o+3,none⟩=some (.int .u8 x3)):
 Calls Tryz.prog 209 #[.slice (some ⟨b,o,none⟩) n c] w fun e w'=>e= .returned (.int .u32 (beN [x0,x1,x2,x3]))∧Below w.heap.size w w':=by
 have HE:=Lib.hid (be32_or x0 x1 x2 x3 h0 h1 h2 h3)
 have e0:x0%4294967296=x0:=by omega
 have e1:x1%4294967296=x1:=by omega
 have e2:x2%4294967296=x2:=by omega
 have e3:x3%4294967296=x3:=by omega
 have m2:(x2*256)%4294967296=x2*256:=by omega
 have m1:(x1*65536)%4294967296=x1*65536:=by omega
 have m0:(x0*16777216)%4294967296=x0*16777216:=by omega
 have n3:(3:Int)<(n:Int):=by omega
 have n2:(2:Int)<(n:Int):=by omega
 have n1:(1:Int)<(n:Int):=by omega
 have n0:(0:Int)<(n:Int):=by omega
 clear h0 h1 h2 h3 hn
 go_enter Tryz.func209,Tryz.ntmps209
 go_wp2
 go_region
 all_goals go_wp2
 all_goals go_ret
 all_goals exact⟨by rw[HE.out];rfl,(Below.refl _ _).drew⟩
theorem wrap_u64 (x:Int):IntKind.u64.wrap x=x%18446744073709551616:=by simp[IntKind.wrap,IntKind.signed,IntKind.bits]
theorem be64_or (x0 x1 x2 x3 x4 x5 x6 x7:Int) (h0:0≤x0∧x0<256) (h1:0≤x1∧x1<256) (h2:0≤x2∧x2<256) (h3:0≤x3∧x3<256) (h4:0≤x4∧x4<256) (h5:0≤x5∧x5<256) (h6:0≤x6∧x6<256) (h7:0≤x7∧x7<256):
 Go.bits .or .u64 (beN [x0,x1,x2,x3]*4294967296) (beN [x4,x5,x6,x7])=beN [x0,x1,x2,x3,x4,x5,x6,x7]:=by
 have e1:beN [x0,x1,x2,x3]=x0*16777216+x1*65536+x2*256+x3:=by simp only[beN,List.foldl_cons,List.foldl_nil];omega
 have e2:beN [x4,x5,x6,x7]=x4*16777216+x5*65536+x6*256+x7:=by simp only[beN,List.foldl_cons,List.foldl_nil];omega
 rw[or_join64 (beN [x4,x5,x6,x7]) (beN [x0,x1,x2,x3]*4294967296) 32 (by omega) (by omega) (by omega) (by omega) (by omega) (by omega),e1,e2]
 simp only[beN,List.foldl_cons,List.foldl_nil]
 omega
set_option maxRecDepth 100000 in
theorem beUint64_c (b o n c:Nat) (x0 x1 x2 x3 x4 x5 x6 x7:Int) (w:World) (h0:0≤x0∧x0<256) (h1:0≤x1∧x1<256) (h2:0≤x2∧x2<256) (h3:0≤x3∧x3<256) (h4:0≤x4∧x4<256) (h5:0≤x5∧x5<256) (h6:0≤x6∧x6<256) (h7:0≤x7∧x7<256) (hn:8≤n) (hnc:n≤c) (hb:b<w.heap.size)
 (c0:w.cell? ⟨b,o,none⟩=some (.int .u8 x0)) (c1:w.cell? ⟨b,o+1,none⟩=some (.int .u8 x1)) (c2:w.cell? ⟨b,o+2,none⟩=some (.int .u8 x2)) (c3:w.cell? ⟨b,o+3,none⟩=some (.int .u8 x3))
 (c4:w.cell? ⟨b,o+4,none⟩=some (.int .u8 x4)) (c5:w.cell? ⟨b,o+5,none⟩=some (.int .u8 x5)) (c6:w.cell? ⟨b,o+6,none⟩=some (.int .u8 x6)) (c7:w.cell? ⟨b,o+7,none⟩=some (.int .u8 x7)):
 Calls Tryz.prog 208 #[.slice (some ⟨b,o,none⟩) n c] w fun e w'=>e= .returned (.int .u64 (beN [x0,x1,x2,x3,x4,x5,x6,x7]))∧Below w.heap.size w w':=by
 have HE:=Lib.hid (be64_or x0 x1 x2 x3 x4 x5 x6 x7 h0 h1 h2 h3 h4 h5 h6 h7)
 have e1:beN [x0,x1,x2,x3]=x0*16777216+x1*65536+x2*256+x3:=by simp only[beN,List.foldl_cons,List.foldl_nil];omega
 have e2:beN [x4,x5,x6,x7]=x4*16777216+x5*65536+x6*256+x7:=by simp only[beN,List.foldl_cons,List.foldl_nil];omega
 have HC1:Hid (∀w',Below w.heap.size w w'→Calls Tryz.prog 209 #[.slice (some ⟨b,o,none⟩) n c] w' fun e w''=>e= .returned (.int .u32 (beN [x0,x1,x2,x3]))∧Below w'.heap.size w' w''):=by
  intro w' hw
  have k:=fun(j:Nat)=>hw.cell (p:=⟨b,j,none⟩) hb
  exact beUint32_c b o n c x0 x1 x2 x3 w' h0 h1 h2 h3 (by omega) (by rw[k];exact c0) (by rw[k];exact c1) (by rw[k];exact c2) (by rw[k];exact c3)
 have HC2:Hid (∀w',Below w.heap.size w w'→Calls Tryz.prog 209 #[.slice (some ⟨b,o+4,none⟩) (n-4) (c-4)] w' fun e w''=>e= .returned (.int .u32 (beN [x4,x5,x6,x7]))∧Below w'.heap.size w' w''):=by
  intro w' hw
  have k:=fun(j:Nat)=>hw.cell (p:=⟨b,j,none⟩) hb
  exact beUint32_c b (o+4) (n-4) (c-4) x4 x5 x6 x7 w' h4 h5 h6 h7 (by omega) (by rw[k];exact c4) (by rw[k];exact c5) (by rw[k];exact c6) (by rw[k];exact c7)
 obtain⟨p,hp⟩: ∃p,beN [x0,x1,x2,x3]=p:=⟨_,rfl⟩
 obtain⟨q,hq⟩: ∃q,beN [x4,x5,x6,x7]=q:=⟨_,rfl⟩
 rw[hp] at HC1 HE e1
 rw[hq] at HC2 HE e2
 have w1:IntKind.u64.wrap p=p:=by rw[wrap_u64];omega
 have w2:IntKind.u64.wrap q=q:=by rw[wrap_u64];omega
 have w3:IntKind.u64.wrap (p*4294967296)=p*4294967296:=by rw[wrap_u64];omega
 have n7:(7:Int)<(n:Int):=by omega
 have n4:(4:Int)≤(n:Int):=by omega
 have n4':4≤n:=by omega
 have HB0:Hid (Below w.heap.size w w):=Below.refl _ _
 clear hp hq e1 e2 h0 h1 h2 h3 h4 h5 h6 h7 hn c0 c1 c2 c3 c4 c5 c6
 go_enter Tryz.func208,Tryz.ntmps208
 go_wp2
 go_region_with (first
  |(go_at_call_of 209 (Value.slice (some ⟨b,o,none⟩) n c);refine(HC1.out _ (by first|exact HB0.out|exact HB0.out.drew)).mono ?_;rintro e w1 ⟨rfl,hb1⟩;replace HB0:Hid (Below w.heap.size w w1):=by first|exact HB0.out.trans hb1|exact HB0.out.trans (hb1.mono HB0.out.size)|exact HB0.out.drew.trans (hb1.mono (by simp))
    clear hb1)
  |(go_at_call 209;refine(HC2.out _ (by first|exact HB0.out|exact HB0.out.drew)).mono ?_;rintro e w1 ⟨rfl,hb1⟩;replace HB0:Hid (Below w.heap.size w w1):=by first|exact HB0.out.trans hb1|exact HB0.out.trans (hb1.mono HB0.out.size)|exact HB0.out.drew.trans (hb1.mono (by simp))
    clear hb1))
 all_goals go_wp2
 all_goals go_ret
 all_goals exact⟨congrArg (fun z=>Ending.returned (.int .u64 z)) HE.out,HB0.out⟩
set_option maxRecDepth 100000 in
theorem bigWord_c (b o n c:Nat) (x0 x1 x2 x3 x4 x5 x6 x7:Int) (w:World) (h0:0≤x0∧x0<256) (h1:0≤x1∧x1<256) (h2:0≤x2∧x2<256) (h3:0≤x3∧x3<256) (h4:0≤x4∧x4<256) (h5:0≤x5∧x5<256) (h6:0≤x6∧x6<256) (h7:0≤x7∧x7<256) (hn:8≤n) (hnc:n≤c) (hb:b<w.heap.size)
 (c0:w.cell? ⟨b,o,none⟩=some (.int .u8 x0)) (c1:w.cell? ⟨b,o+1,none⟩=some (.int .u8 x1)) (c2:w.cell? ⟨b,o+2,none⟩=some (.int .u8 x2)) (c3:w.cell? ⟨b,o+3,none⟩=some (.int .u8 x3))
 (c4:w.cell? ⟨b,o+4,none⟩=some (.int .u8 x4)) (c5:w.cell? ⟨b,o+5,none⟩=some (.int .u8 x5)) (c6:w.cell? ⟨b,o+6,none⟩=some (.int .u8 x6)) (c7:w.cell? ⟨b,o+7,none⟩=some (.int .u8 x7)):
 Calls Tryz.prog 181 #[.slice (some ⟨b,o,none⟩) n c] w fun e w'=>e= .returned (.int .u64 (beN [x0,x1,x2,x3,x4,x5,x6,x7]))∧Below w.heap.size w w':=by
 have HC:=Lib.hid (beUint64_c b o n c x0 x1 x2 x3 x4 x5 x6 x7 w h0 h1 h2 h3 h4 h5 h6 h7 hn hnc hb c0 c1 c2 c3 c4 c5 c6 c7)
 clear h0 h1 h2 h3 h4 h5 h6 h7 hn c0 c1 c2 c3 c4 c5 c6 c7
 go_enter Tryz.func181,Tryz.ntmps181
 go_wp2_with (go_at_call 208;refine HC.out.mono ?_;rintro e w1 ⟨rfl,hb1⟩)
 go_ret
 exact⟨rfl,hb1⟩
theorem bitLen_eq (n:Nat): ∀x:Nat,2^n≤x→x<2^(n+1)→n<64→Lib.bitLen x=n+1:=by
 induction n with
 |zero=>
  intro x h1 h2 _
  obtain rfl:x=1:=by simp at h1 h2;omega
  decide+kernel
 |succ n ih=>
  intro x h1 h2 hn
  have hp:(2:Nat)^(n+1+1)≤2^64:=Nat.pow_le_pow_right (by omega) (by omega)
  have e1:(2:Nat)^(n+1)=2^n*2:=Nat.pow_succ 2 n
  have e2:(2:Nat)^(n+1+1)=2^(n+1)*2:=Nat.pow_succ 2 (n+1)
  have hz:=Nat.two_pow_pos n
  rw[Lib.bitLen_half x (by omega) (by omega),ih (x/2) (by omega) (by omega) (by omega)]
  omega
theorem smear (x y n:Nat) (h1:2^n≤x) (h2:x<2^(n+1)) (h3:y≤x):2^n≤x|||y∧x|||y<2^(n+1):=
 ⟨Nat.le_trans h1 (Nat.left_le_or),Nat.or_lt_two_pow h2 (by omega)⟩
theorem or_nat (a b:Int) (h0:0≤a) (h1:a<18446744073709551616) (h2:0≤b) (h3:b<18446744073709551616):Go.bits .or .u64 a b=((a.toNat|||b.toNat:Nat):Int):=u64_or a b h0 h1 h2 h3
theorem smear_step (a b:Int) (n:Nat) (h0:0≤a) (h1:a<18446744073709551616) (hb:0≤b) (hba:b≤a) (h2:2^n≤a.toNat) (h3:a.toNat<2^(n+1)) (hn:n<64):
 0≤Go.bits .or .u64 a b∧Go.bits .or .u64 a b<18446744073709551616∧2^n≤(Go.bits .or .u64 a b).toNat∧(Go.bits .or .u64 a b).toNat<2^(n+1):=by
 rw[or_nat a b h0 h1 hb (by omega)]
 obtain⟨s1,s2⟩:=smear a.toNat b.toNat n h2 h3 (by omega)
 have:(2:Nat)^(n+1)≤2^64:=Nat.pow_le_pow_right (by omega) (by omega)
 refine⟨by omega,by omega,by simpa using s1,by simpa using s2⟩
set_option maxRecDepth 100000 in
theorem bitLen0_c (c:Nat) (A:Option Addr) (w:World):Calls Tryz.prog 210 #[.slice A 0 c] w fun e w'=>e= .returned (.int .i64 0)∧w'=w:=by
 go_enter Tryz.func210,Tryz.ntmps210
 go_wp2
 go_ret
 exact⟨rfl,rfl⟩
set_option maxRecDepth 100000 in
theorem bitLen_c (b o n c:Nat) (x:Int) (w:World) (hn:0<n) (hm:n≤4398046511104) (h0:0<x) (h1:x<18446744073709551616) (hc:w.cell? ⟨b,o+(n-1),none⟩=some (.int .u64 x)):
 Calls Tryz.prog 210 #[.slice (some ⟨b,o,none⟩) n c] w fun e w'=>e= .returned (.int .i64 ((n-1)*64+Lib.bitLen x.toNat))∧w'=w:=by
 obtain⟨m,rfl⟩: ∃m,n=m+1:=⟨n-1,by omega⟩
 obtain⟨k,hk1,hk2⟩: ∃k,2^k≤x.toNat∧x.toNat<2^(k+1):=⟨x.toNat.log2,Nat.log2_self_le (by omega),Nat.lt_log2_self⟩
 have hk:k<64:=by
  rcases Nat.lt_or_ge k 64 with h|h
  ·exact h
  ·have:(2:Nat)^64≤2^k:=Nat.pow_le_pow_right (by omega) h
   omega
 have hL:=bitLen_eq k x.toNat hk1 hk2 hk
 obtain⟨y1,e1⟩: ∃y,Go.bits .or .u64 x (x/2)=y:=⟨_,rfl⟩
 have s1:=smear_step x (x/2) k (by omega) h1 (by omega) (by omega) hk1 hk2 hk
 rw[e1] at s1
 obtain⟨y2,e2⟩: ∃y,Go.bits .or .u64 y1 (y1/4)=y:=⟨_,rfl⟩
 have s2:=smear_step y1 (y1/4) k (by omega) s1.2.1 (by omega) (by omega) s1.2.2.1 s1.2.2.2 hk
 rw[e2] at s2
 obtain⟨y3,e3⟩: ∃y,Go.bits .or .u64 y2 (y2/16)=y:=⟨_,rfl⟩
 have s3:=smear_step y2 (y2/16) k (by omega) s2.2.1 (by omega) (by omega) s2.2.2.1 s2.2.2.2 hk
 rw[e3] at s3
 obtain⟨y4,e4⟩: ∃y,Go.bits .or .u64 y3 (y3/256)=y:=⟨_,rfl⟩
 have s4:=smear_step y3 (y3/256) k (by omega) s3.2.1 (by omega) (by omega) s3.2.2.1 s3.2.2.2 hk
 rw[e4] at s4
 obtain⟨y5,e5⟩: ∃y,Go.bits .or .u64 y4 (y4/65536)=y:=⟨_,rfl⟩
 have s5:=smear_step y4 (y4/65536) k (by omega) s4.2.1 (by omega) (by omega) s4.2.2.1 s4.2.2.2 hk
 rw[e5] at s5
 obtain⟨y6,e6⟩: ∃y,Go.bits .or .u64 y5 (y5/65536/65536)=y:=⟨_,rfl⟩
 have s6:=smear_step y5 (y5/65536/65536) k (by omega) s5.2.1 (by omega) (by omega) s5.2.2.1 s5.2.2.2 hk
 rw[e6] at s6
 have hL6:=bitLen_eq k y6.toNat s6.2.2.1 s6.2.2.2 hk
 have HL:=Lib.hid (And.intro hL hL6)
 have HC:=Lib.hid (fun w=>bitsLen y6 w s6.1 (by omega))
 clear s1 s2 s3 s4 s5 s6 hL hL6 hk1 hk2 h0 h1
 replace hc:w.cell? ⟨b,o+m,none⟩=some (.int .u64 x):=hc
 go_enter Tryz.func210,Tryz.ntmps210
 go_wp2_with (go_at_call 228;refine(HC.out _).mono ?_;rintro e w1 ⟨rfl,rfl⟩)
 go_ret
 refine⟨congrArg (fun z=>Ending.returned (.int .i64 z)) (show wrap64 ((m:Int)*64+(Lib.bitLen y6.toNat:Nat))=_ from ?_),rfl⟩
 have h1:=HL.out
 rw[h1.1,h1.2]
 unfold wrap64
 omega
set_option maxRecDepth 100000 in
theorem low64_c (b o n c:Nat) (x:Int) (w:World) (hn:0<n) (hc:w.cell? ⟨b,o,none⟩=some (.int .u64 x)) (h0:0≤x) (h1:x<18446744073709551616):
 Calls Tryz.prog 183 #[.slice (some ⟨b,o,none⟩) n c] w fun e w'=>e= .returned (.int .u64 x)∧w'=w:=by
 have n0:(0:Int)<(n:Int):=by omega
 have nb:((n:Int)==0)=false:=by simp;omega
 go_enter Tryz.func183,Tryz.ntmps183
 go_wp2
 go_ret
 exact⟨rfl,rfl⟩
set_option maxRecDepth 100000 in
theorem low64_nil (c:Nat) (A:Option Addr) (w:World):Calls Tryz.prog 183 #[.slice A 0 c] w fun e w'=>e= .returned (.int .u64 0)∧w'=w:=by
 go_enter Tryz.func183,Tryz.ntmps183
 go_wp2
 go_ret
 exact⟨rfl,rfl⟩
set_option maxRecDepth 100000 in
theorem norm_nil (w:World):Calls Tryz.prog 166 #[.slice none 0 0] w fun e w'=>e= .returned (.slice none 0 0)∧w'=w:=by
 go_enter Tryz.func166,Tryz.ntmps166
 go_wp2
 refine wp_loop_rounds 1 ?_
 rw[rounds_succ]
 go_wp2
 go_ret
 exact⟨rfl,rfl⟩
theorem norm_own (b n c:Nat) (zs:List Int) (w:World) (hn:zs.length=n) (hc:n≤c) (hm:c≤140737488355328) (h:IRow .u64 w b zs) (hb:b<w.heap.size) (hw:Words zs):
 Calls Tryz.prog 166 #[.slice (some ⟨b,0,none⟩) n c] w fun e w'=>w'=w∧ ∃i ys,e= .returned (.slice (some ⟨b,0,none⟩) i c)∧Sl .u64 b w (.slice (some ⟨b,0,none⟩) i c) ys∧Words ys∧Top ys∧leN ys=leN zs∧i=ys.length∧i≤n:=by
 subst hn
 refine(norm_row b 0 c zs w hc hm (fun j hj=>by rw[Nat.zero_add];exact h.1 j hj)).mono ?_
 rintro e w' ⟨rfl,i,hi,hz,ht,rfl⟩
 have hlen:(zs.take i).length=i:=by rw[List.length_take];omega
 refine⟨rfl,i,zs.take i,rfl,⟨_,c,by rw[hlen],by omega,by omega,fun _=>⟨b,0,rfl,Nat.le_refl _,hb,fun j hj=>?_⟩⟩,fun x hx=>hw x (List.mem_of_mem_take hx),fun hne=>?_,leN_take zs i hz,hlen.symm,hi⟩
 ·rw[Nat.zero_add,List.getElem_take]
  exact h.1 j (by omega)
 ·rw[List.getLast_eq_getElem,List.getElem_take]
  have hi0:0<i:=by
   rcases Nat.eq_zero_or_pos i with h0|h0
   ·subst h0;simp at hne
   ·exact h0
  have:=ht hi0 (by omega)
  simpa [hlen] using this
set_option maxRecDepth 100000 in
theorem setBytes_nil (A:Option Addr) (c:Nat) (w:World):Calls Tryz.prog 151 #[.slice none 0 0, .slice A 0 c] w fun e w'=>e= .returned (.slice none 0 0)∧w'=w:=by
 go_enter Tryz.func151,Tryz.ntmps151
 go_wp2_with (go_at_call 161;refine(make_nil0 _).mono ?_;rintro e w1 ⟨rfl,rfl⟩)
 refine wp_loop_rounds 1 ?_
 rw[rounds_succ]
 go_wp2_with (go_at_call 166;refine(norm_nil _).mono ?_;rintro e w1 ⟨rfl,rfl⟩)
 go_ret
 exact⟨rfl,rfl⟩
theorem sb_step (l zs:List Int) (k i:Nat) (hl:Bytes l) (h:i+8+8*k=l.length) (hk:k<zs.length) (hz: ∀j (hj:j<zs.length),k≤j→zs[j]=0)
 (he:beN l=beN (l.take (i+8))*18446744073709551616^k+leN zs):
 beN l=beN (l.take i)*18446744073709551616^(k+1)+leN (zs.set k (beN ((l.drop i).take 8)))∧(∀j (hj:j<(zs.set k (beN ((l.drop i).take 8))).length),k+1≤j→(zs.set k (beN ((l.drop i).take 8)))[j]=0):=by
 refine⟨?_,fun j hj hle=>?_⟩
 ·rw[leN_set zs k hk,hz k hk (Nat.le_refl _),he,be_step l (i+8) (by omega) (by omega),Int.pow_succ,show i+8-8=i from by omega,Int.add_mul,Int.sub_zero]
  rw[Int.mul_comm (beN ((l.drop i).take 8)),Int.mul_comm (18446744073709551616^k) 18446744073709551616,←Int.mul_assoc]
  omega
 ·rw[List.getElem_set_ne (by omega)]
  exact hz j (by simpa using hj) (by omega)
theorem eight (l:List Int) (i:Nat) (h:i+8≤l.length):(l.drop i).take 8=[l[i],l[i+1],l[i+2],l[i+3],l[i+4],l[i+5],l[i+6],l[i+7]]:=by
 rw[List.drop_eq_getElem_cons (show i<l.length by omega),List.drop_eq_getElem_cons (show i+1<l.length by omega),List.drop_eq_getElem_cons (show i+1+1<l.length by omega),List.drop_eq_getElem_cons (show i+1+1+1<l.length by omega),List.drop_eq_getElem_cons (show i+1+1+1+1<l.length by omega),List.drop_eq_getElem_cons (show i+1+1+1+1+1<l.length by omega),List.drop_eq_getElem_cons (show i+1+1+1+1+1+1<l.length by omega),List.drop_eq_getElem_cons (show i+1+1+1+1+1+1+1<l.length by omega)]
 simp only[List.take_succ_cons,List.take_zero]
theorem take8_bd (l:List Int) (i:Nat) (hl:Bytes l) (h:i+8≤l.length):0≤beN ((l.drop i).take 8)∧beN ((l.drop i).take 8)<18446744073709551616:=by
 have:=beN_bd ((l.drop i).take 8) (fun x hx=>hl x (List.mem_of_mem_drop (List.mem_of_mem_take hx)))
 rw[List.length_take,List.length_drop,show min 8 (l.length-i)=8 from by omega,pow256_8] at this
 exact this
theorem word_at (b o c:Nat) (l:List Int) (w w':World) (hl:Bytes l) (hc:l.length≤c) (hb:b<w.heap.size) (hcell: ∀j (h:j<l.length),w.cell? ⟨b,o+j,none⟩=some (.int .u8 l[j])) (hbw:Below w.heap.size w w') (i:Nat) (h:i+8≤l.length):
 Calls Tryz.prog 181 #[.slice (some ⟨b,o+i,none⟩) 8 (c-i)] w' fun e w''=>e= .returned (.int .u64 (beN ((l.drop i).take 8)))∧Below w'.heap.size w' w'':=by
 have k: ∀j (h:j<l.length),w'.cell? ⟨b,o+j,none⟩=some (.int .u8 l[j]):=fun j hj=>by rw[hbw.cell (p:=⟨b,o+j,none⟩) hb];exact hcell j hj
 have m: ∀j (h:j<l.length),0≤l[j]∧l[j]<256:=fun j hj=>hl _ (List.getElem_mem hj)
 rw[eight l i h]
 exact bigWord_c b (o+i) 8 (c-i) _ _ _ _ _ _ _ _ w' (m _ _) (m _ _) (m _ _) (m _ _) (m _ _) (m _ _) (m _ _) (m _ _) (Nat.le_refl _) (by omega) (Nat.lt_of_lt_of_le hb hbw.size)
  (k i (by omega)) (by rw[Nat.add_assoc];exact k (i+1) (by omega)) (by rw[Nat.add_assoc];exact k (i+2) (by omega)) (by rw[Nat.add_assoc];exact k (i+3) (by omega)) (by rw[Nat.add_assoc];exact k (i+4) (by omega)) (by rw[Nat.add_assoc];exact k (i+5) (by omega)) (by rw[Nat.add_assoc];exact k (i+6) (by omega)) (by rw[Nat.add_assoc];exact k (i+7) (by omega))
structure Laid (l zs:List Int) (n k i:Nat):Prop where
 sum:i+8*k=l.length
 len:zs.length=n
 words:Words zs
 rest: ∀j (hj:j<zs.length),k≤j→zs[j]=0
 num:beN l=beN (l.take i)*18446744073709551616^k+leN zs
theorem laid0 (l:List Int) (n:Nat):Laid l (List.replicate n 0) n 0 l.length:=
 ⟨by omega,by simp,words_zeros n,fun j hj _=>by simp,by rw[List.take_length,leN_zeros];simp⟩
theorem laid_step {l zs:List Int} {n k i:Nat} (h:Laid l zs n k (i+8)) (hl:Bytes l) (hn:n=(l.length+7)/8):Laid l (zs.set k (beN ((l.drop i).take 8))) n (k+1) i:=by
 have hs:=h.sum
 have hk:k<zs.length:=by rw[h.len];omega
 obtain⟨h1,h2⟩:=sb_step l zs k i hl h.sum hk h.rest h.num
 obtain⟨d0,d1⟩:=take8_bd l i hl (by omega)
 exact⟨by omega,by rw[List.length_set];exact h.len,words_set zs k _ h.words d0 d1,h2,h1⟩
theorem or_join64' (a b:Int) (n:Nat) (ha:0≤a) (h2:a<2^n) (hb:0≤b) (hz:b%2^n=0) (h4:b<18446744073709551616) (hn:n≤64):Go.bits .or .u64 a b=a+b:=by
 have hp:(2:Int)^n≤18446744073709551616:=by
  have:2^n≤2^64:=Nat.pow_le_pow_right (by omega) hn
  have h:=Int.ofNat_le.2 this
  simpa using h
 obtain⟨x,rfl⟩:=Int.eq_ofNat_of_zero_le ha
 obtain⟨y,rfl⟩:=Int.eq_ofNat_of_zero_le hb
 rw[u64_or_nat x y (by omega) (by omega),Nat.or_comm,nat_join n y x (by exact_mod_cast hz) (by exact_mod_cast h2)]
 push_cast
 omega
theorem pow8 (t:Nat):(2:Int)^(8*t)=256^t:=by
 rw[Int.pow_mul];rfl
theorem drop_bd (l:List Int) (i j:Nat) (hl:Bytes l):0≤beN ((l.take i).drop j)∧beN ((l.take i).drop j)<256^((l.take i).drop j).length:=
 beN_bd _ (fun x hx=>hl x (List.mem_of_mem_take (List.mem_of_mem_drop hx)))
theorem sb_or (l:List Int) (i j t:Nat) (hl:Bytes l) (hjt:j+1+t=i) (h8:i<8) (hi:i≤l.length) (hj:j<l.length):
 Go.bits .or .u64 (beN ((l.take i).drop (j+1))) (IntKind.u64.wrap (l[j]*2^(8*t)))=beN ((l.take i).drop j):=by
 have e:(l.take i).drop j=l[j]::(l.take i).drop (j+1):=by
  rw[List.drop_eq_getElem_cons (show j<(l.take i).length by rw[List.length_take];omega),List.getElem_take]
 have hlen:((l.take i).drop (j+1)).length=t:=by rw[List.length_drop,List.length_take];omega
 have hlen2:((l.take i).drop j).length=t+1:=by rw[List.length_drop,List.length_take];omega
 obtain⟨d0,d1⟩:=drop_bd l i (j+1) hl
 obtain⟨f0,f1⟩:=drop_bd l i j hl
 rw[hlen] at d1
 rw[hlen2] at f1
 have h56:=pow_le_pow (t+1) 7 (by omega)
 rw[show(256:Int)^7=72057594037927936 from by decide] at h56
 rw[e,beN_cons,hlen] at f0 f1
 rw[e,beN_cons,hlen,pow8]
 have hx:=hl _ (List.getElem_mem hj)
 have hp:=pow_pos t
 have hxp:0≤l[j]*256^t:=Int.mul_nonneg hx.1 (by omega)
 have hw:IntKind.u64.wrap (l[j]*256^t)=l[j]*256^t:=by rw[wrap_u64];omega
 rw[hw,or_join64' _ _ (8*t) d0 (by rw[pow8];exact d1) hxp (by rw[pow8];exact Int.mul_emod_left _ _) (by omega) (by omega)]
 omega
set_option maxRecDepth 100000 in
set_option maxHeartbeats 1000000 in
theorem setBytes_row (b o c:Nat) (l:List Int) (w:World) (hne:l≠[]) (hl:Bytes l) (hlen:l.length≤2147483647) (hc:l.length≤c) (hb:b<w.heap.size) (hcell: ∀j (h:j<l.length),w.cell? ⟨b,o+j,none⟩=some (.int .u8 l[j])):
 Calls Tryz.prog 151 #[.slice none 0 0, .slice (some ⟨b,o,none⟩) l.length c] w fun e w'=> ∃v zs,e= .returned v∧Sl .u64 w.heap.size w' v zs∧Words zs∧Top zs∧leN zs=beN l∧Below w.heap.size w w':=by
 obtain⟨n,hn⟩: ∃n,n=(l.length+7)/8:=⟨_,rfl⟩
 have hpos:0<l.length:=List.length_pos_iff.2 hne
 have hn0:0<n:=by omega
 have hn1:n≤4398046511104:=by omega
 have hnq:Int.tdiv ((l.length:Int)+8-1) 8=(n:Int):=by rw[Int.tdiv_eq_ediv_of_nonneg (by omega)];omega
 have HW:=Lib.hid (fun w'=>word_at b o c l w w' hl hc hb hcell)
 have HC:=Lib.hid hcell
 clear hcell
 have HN:=Lib.hid hn
 have HL:=Lib.hid hl
 clear hl hn
 go_enter Tryz.func151,Tryz.ntmps151
 go_wp2_with (go_at_call 161;refine(make_nil n _ hn0 hn1).mono ?_;rintro e w1 ⟨c1,rfl,hc1,hc2,hr1,hb1,hsz1⟩;have HR1:=Lib.hid hr1;have HB1:=Lib.hid hb1;clear hr1 hb1)
 go_loopw [5,6] (fun a d wr=> ∃i k zs,a= .int .i64 (i:Nat)∧d= .int .i64 (k:Nat)∧i≤l.length∧Hid (Laid l zs n k i)∧Hid (IRow .u64 wr w.heap.size zs)∧Hid (Below w.heap.size w wr)) (fun a _ _=>(intOf a).toNat)
 case atStart=>exact⟨l.length,0,_,rfl,rfl,Nat.le_refl _,laid0 l n,HR1.out,HB1.out⟩
 case round=>
  obtain⟨i,k,zs,rfl,rfl,hi,HD,HR,HB⟩:=hrel
  by_cases h8:8≤i
  ·obtain⟨i,rfl⟩: ∃p,i=p+8:=⟨i-8,by omega⟩
   have hk:k<n:=by have:=HD.out.sum;have:=HN.out;omega
   have HD2:=Lib.hid (laid_step HD.out HL.out HN.out)
   have HCW:=Lib.hid (HW.out _ HB.out i (by omega))
   have hlz:k<zs.length:=by rw[HD.out.len];exact hk
   have hlt:w.heap.size<wr.heap.size:=lt_of_cell (HR.out.1 k hlz)
   obtain⟨x,hx⟩: ∃x,beN ((l.drop i).take 8)=x:=⟨_,rfl⟩
   rw[hx] at HD2 HCW
   clear hx
   go_wp2_with (go_at_call 181;refine HCW.out.mono ?_;rintro e w2 ⟨rfl,hb2⟩;obtain⟨q1,q2,q3,q4⟩:=irow_step (v:=x) (HR.out.below hb2 hlt) hlz (HB.out.trans (hb2.mono HB.out.size)) (Nat.le_refl _);have Q3:=Lib.hid q3;have Q4:=Lib.hid q4;clear q3 q4 hb2)
   go_roundw
   case rel=>exact⟨i,k+1,_,by go_num,by go_num,by omega,HD2,Q3,Q4⟩
   case measure=>simp[intOf];omega
  ·have hi8:i<8:=by omega
   clear h8
   by_cases h0:i=0
   ·subst h0
    have HE:Hid (Words zs∧leN zs=beN l):=by
     refine⟨HD.out.words,?_⟩
     have:=HD.out.num
     simpa [beN] using this.symm
    have hzl:=HD.out.len
    have hlt:w.heap.size<wr.heap.size:=lt_of_cell (HR.out.1 0 (by omega))
    have HNR:=Lib.hid (norm_own w.heap.size n c1 zs wr hzl (by omega) (by omega) HR.out hlt HE.out.1)
    go_wp2_with (go_at_call 166;refine HNR.out.mono ?_;rintro e w2 ⟨rfl,i,ys,rfl,y1,y2,y3,y4,y5,y6⟩)
    go_ret
    subst y5
    exact⟨.slice (some ⟨w.heap.size,0,none⟩) ys.length c1,ys,rfl,y1,y2,y3,y4.trans HE.out.2,HB.out⟩
   ·have hi0:0<i:=by omega
    clear h0
    go_wp2
    go_loopw [5,7,8] (fun a d s wq=> ∃j t:Nat,j+t=i∧a= .int .i64 (j:Nat)∧d= .int .u64 (beN ((l.take i).drop j))∧s= .int .u64 (8*t:Nat)∧wq=wr) (fun a _ _ _=>(intOf a).toNat)
    case atStart=>exact⟨i,0,by omega,rfl,by simp[beN],rfl,rfl⟩
    case round=>
     obtain⟨j,t,hjt,rfl,rfl,rfl,rfl⟩:=hrel
     rcases j with _|j
     ·have hk:k<zs.length:=by have:=HD.out.sum;have:=HN.out;rw[HD.out.len];omega
      have hkn:n-1=k:=by have:=HD.out.sum;have:=HN.out;omega
      have hkn2:(n:Int)-1=k:=by omega
      obtain⟨d,hd⟩: ∃d,beN ((l.take i).drop 0)=d:=⟨_,rfl⟩
      have hdb:=drop_bd l i 0 HL.out
      rw[hd] at hdb
      have h56:=pow_le_pow (((l.take i).drop 0)).length 7 (by simp;omega)
      rw[show(256:Int)^7=72057594037927936 from by decide] at h56
      have HE:Hid (Words (zs.set k d)∧leN (zs.set k d)=beN l):=by
       refine⟨words_set zs k d HD.out.words hdb.1 (by omega),?_⟩
       rw[leN_set zs k hk,HD.out.rest k hk (Nat.le_refl _),HD.out.num,←hd,List.drop_zero,Int.sub_zero,Int.mul_comm]
       omega
      have hzl:=HD.out.len
      have hlt:w.heap.size<wr.heap.size:=lt_of_cell (HR.out.1 k hk)
      obtain⟨q1,q2,q3,q4⟩:=irow_step (v:=d) HR.out hk HB.out (Nat.le_refl _)
      have HNR:=Lib.hid (norm_own w.heap.size n c1 (zs.set k d) (wr.setCell ⟨w.heap.size,k,none⟩ (.int .u64 d)) (by simpa using hzl) (by omega) (by omega) q3 (by simpa [World.setCell] using hlt) HE.out.1)
      have Q4:=Lib.hid q4
      clear q3 q4 hdb h56
      rw[hd]
      go_wp2_with (go_at_call 166;refine HNR.out.mono ?_;rintro e w2 ⟨rfl,i,ys,rfl,y1,y2,y3,y4,y5,y6⟩)
      go_ret
      subst y5
      exact⟨.slice (some ⟨w.heap.size,0,none⟩) ys.length c1,ys,rfl,y1,y2,y3,y4.trans HE.out.2,Q4.out⟩
     ·have hj:j<l.length:=by omega
      have hcj:=HC.out j hj
      rw[←HB.out.cell (p:=⟨b,o+j,none⟩) hb] at hcj
      have hx01:=HL.out _ (List.getElem_mem hj)
      obtain⟨x,hx⟩: ∃x,l[j]=x:=⟨_,rfl⟩
      rw[hx] at hcj hx01
      have hor:=sb_or l i j t HL.out (by omega) hi8 hi hj
      rw[hx] at hor
      generalize beN ((l.take i).drop (j+1))=d at hor⊢
      go_wp2
      exact⟨⟨j,t+1,by omega,rfl,rfl,by go_num,trivial⟩,by simp[intOf]⟩
theorem setBytes_c (B:Nat) (v:Value) (l:List Int) (w:World) (h:Sl .u8 B w v l) (hl:Bytes l) (hlen:l.length≤2147483647):
 Calls Tryz.prog 151 #[.slice none 0 0,v] w fun e w'=> ∃v zs,e= .returned v∧Sl .u64 w.heap.size w' v zs∧Words zs∧Top zs∧leN zs=beN l∧Below w.heap.size w w':=by
 obtain⟨A,c,rfl,h1,h2,h3⟩:=h
 by_cases hne:l=[]
 ·subst hne
  refine(setBytes_nil A c w).mono ?_
  rintro e w' ⟨rfl,rfl⟩
  exact⟨_,[],rfl,Sl.nil,fun x hx=>(by cases hx),fun h=>absurd rfl h,rfl,Below.refl _ _⟩
 ·obtain⟨b,o,rfl,hB,hlt,hc⟩:=h3 hne
  exact setBytes_row b o c l w hne hl hlen h1 hlt hc
end Go.Proofs.YtkplnbjgkhmbcaaGreatDoor
