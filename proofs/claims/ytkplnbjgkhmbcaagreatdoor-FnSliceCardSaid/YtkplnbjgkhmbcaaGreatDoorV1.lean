/- What the walk of FnSlice needs beyond what it shares. -/
import Derived.Test.YtkplnbjgkhmbcaaGreatDoorUa
import Derived.Test.YtkplnbjgkhmbcaaGreatDoorUb
import Derived.Test.YtkplnbjgkhmbcaaGreatDoorU01
import Derived.Test.YtkplnbjgkhmbcaaGreatDoorU02
import Derived.Test.YtkplnbjgkhmbcaaGreatDoorU03
import Derived.Test.YtkplnbjgkhmbcaaGreatDoorU04
import Derived.Test.YtkplnbjgkhmbcaaGreatDoorU05
import Derived.Test.YtkplnbjgkhmbcaaGreatDoorU06
import Derived.Test.YtkplnbjgkhmbcaaGreatDoorU07
import Derived.Test.YtkplnbjgkhmbcaaGreatDoorU08
import Derived.Test.YtkplnbjgkhmbcaaGreatDoorU09
import Derived.Test.YtkplnbjgkhmbcaaGreatDoorU10
import Derived.Test.YtkplnbjgkhmbcaaGreatDoorU11
import Derived.Test.YtkplnbjgkhmbcaaGreatDoorU12
import Derived.Test.YtkplnbjgkhmbcaaGreatDoorU13
import Derived.Test.YtkplnbjgkhmbcaaGreatDoorU14
import Derived.Test.YtkplnbjgkhmbcaaGreatDoorU15
import Derived.Test.YtkplnbjgkhmbcaaGreatDoorU16
import Derived.Test.YtkplnbjgkhmbcaaGreatDoorU17
import Derived.Test.YtkplnbjgkhmbcaaGreatDoorU18
import Derived.Test.YtkplnbjgkhmbcaaGreatDoorU19
import Derived.Test.YtkplnbjgkhmbcaaGreatDoorU20
import Derived.Below
import Derived.Deep.Draws
import Derived.Deep.AppendLies
import Derived.Maps.AppendAt
import Derived.OwnWalk
import Derived.Laws.BytesArg
import Derived.Laws.MakeOwn
import Derived.Laws.OwnMore
import Derived.Deep.OwnRows
import Derived.Tactics
import Derived.Lib.ConvBytes
import Derived.Laws.Slices
import Derived.WalkKit
import Derived.KernelRfl
import Derived.RowKit3
import Derived.Deep.LoopGhost
import Derived.Deep.QuietTactic
import Derived.BigQuiet
import Derived.WideLaws
import Derived.Deep.DeepCutAuto
import Derived.Deep.CutBlock
import Derived.Deep.RegionHeld3
import Derived.Laws.Rows
import Derived.Lib.AppendStr
import Derived.ArgAppend
import Derived.Laws.IdiomCopy
import Derived.RowKit
import Derived.BigRegion
import Derived.LoopTactic
import Derived.Laws.IdiomStrings
set_option linter.unusedVariables false
set_option linter.unusedSimpArgs false
namespace Go.Proofs.YtkplnbjgkhmbcaaGreatDoorW.PrintWords
open Go.RowKit
theorem grown_of_below {w w1:World} (h:Below w.heap.size w w1) (row:Option Nat):w.grownBy w1 row:=⟨h.os,h.tape,h.output,h.size,fun i hi _=>h.block i hi⟩
theorem pw_own_below {w w1:World} {base:Nat} {e:TypeId} {size n:Nat} {v:Value} {xs:List Value} (h:w.ownsRow base e size v n xs) (hb:Below w.heap.size w w1):w1.ownsRow base e size v n xs:=
 h.kept (grown_of_below hb none) (by cases v.ownBlock<;>simp)
section
variable {P:Program} {ops:Array Oper} {rest:List Oper} {o:Oper} {a:Act} {Q:Exit→Act→World→Prop}
end
section
variable {P:Program}
end
section
variable {P:Program} {ops:Array Oper} {rest:List Oper} {o:Oper} {a:Act} {Q:Exit→Act→World→Prop}
end
section
variable {P:Program} {ops:Array Oper} {rest:List Oper} {o:Oper} {a:Act} {Q:Exit→Act→World→Prop}
end
section
variable {P:Program} {ops:Array Oper} {o:Oper} {a:Act} {Q:Exit→Act→World→Prop} {K:Act→World→Prop}
end
section
variable {α:Type} {enc:α→Value} {d:α}
end
section
variable {α:Type} {P:Program} {ops:Array Oper} {rest:List Oper} {o:Oper} {a:Act} {Q:Exit→Act→World→Prop}
end
section
variable {P:Program}
end
section
variable {α:Type} {R R':α→List Value→Prop} {e:TypeId} {size:Nat} {w w1:World} {base:Nat} {v:Value} {ps:List α}
end
section
variable {P:Program} {ops:Array Oper} {rest:List Oper} {o:Oper} {a:Act} {Q:Exit→Act→World→Prop} {α:Type} {R:α→List Value→Prop}
end
section
variable {P:Program} {ops:Array Oper} {o:Oper} {a:Act} {Q:Exit→Act→World→Prop} {K:Act→World→Prop} {α:Type} {R:α→List Value→Prop}
end
section
variable {α:Type} {P:Program}
end
section
variable {P:Program} {ops:Array Oper} {rest:List Oper} {o:Oper} {a:Act} {Q:Exit→Act→World→Prop}
end
namespace Kd
section
variable {α:Type} {d:Kd α} {e:Nat} {w w1:World} {base:Nat} {ok ok':Nat→Prop} {v:Value} {xs:List α}
end
section
variable {P:Program} {ops:Array Oper} {rest:List Oper} {o:Oper} {a:Act} {Q:Exit→Act→World→Prop} {α:Type}
end
section
variable {P:Program} {ops:Array Oper} {o:Oper} {a:Act} {Q:Exit→Act→World→Prop} {Kc:Act→World→Prop} {α:Type}
end
end Kd
namespace Kd
section
variable {α:Type} {F:Kd α→Kd α} {sz:Nat} {E:List Nat} {hs: ∀n,(upto F sz E n).sz=sz} {hE: ∀n q,q∈(upto F sz E n).E→q∈E}
end
end Kd
namespace Kd
end Kd
namespace Kd
section
variable {α β:Type} {d:Kd α} {d':Kd β} {e e':Nat} {w w1 W:World} {base b b':Nat} {ok ok' okv oku:Nat→Prop} {v u:Value} {xs:List α} {ys:List β}
end
section
variable {w W:World} {A:Option Addr} {n:Nat}
variable {α:Type} {enc:α→Value} {h1: ∀x,(enc x).oneCell'=true} {e base g cap:Nat} {ok:Nat→Prop} {xs:List α}
end
section
variable {P:Program} {ops:Array Oper} {rest:List Oper} {o:Oper} {a:Act} {Q:Exit→Act→World→Prop}
variable {α:Type}
end
end Kd
section
variable {P:Program}
end
section
variable {w w1:World} {base n size:Nat} {e:TypeId} {v:Value} {xs:List Value}
end
section
variable {P:Program}
end
namespace Kd
section
variable {α:Type} {d:Kd α} {e:Nat} {w w1 W:World} {base:Nat} {ok ok':Nat→Prop} {v:Value} {xs:List α}
end
section
variable {P:Program} {ops:Array Oper} {rest:List Oper} {o:Oper} {a:Act} {Q':Exit→Act→World→Prop} {Kc:Act→World→Prop} {α:Type}
end
end Kd
namespace Kd
section
variable {α:Type} {d:Kd α} {e e':Nat} {w w1 W:World} {base:Nat} {ok:Nat→Prop} {u v:Value} {xs:List α}
end
end Kd
namespace Kd
section
variable {α:Type} {d:Kd α} {e base g n cap:Nat} {ok okp:Nat→Prop} {W:World} {xs:List α}
end
end Kd
namespace Kd
section
variable {α:Type} {F:Kd α→Kd α} {sz:Nat} {E:List Nat} {hs: ∀n,(upto F sz E n).sz=sz} {hE: ∀n q,q∈(upto F sz E n).E→q∈E}
end
end Kd
namespace Kd
section
variable {P:Program} {ops:Array Oper} {rest:List Oper} {o:Oper} {a:Act} {Q:Exit→Act→World→Prop} {α:Type}
end
end Kd
namespace Kd
section
variable {P:Program} {ops:Array Oper} {rest:List Oper} {o:Oper} {a:Act} {Q:Exit→Act→World→Prop} {α:Type}
end
end Kd
namespace Kd
section
variable {α:Type} {k:Kd α} {w:World} {A:Option Addr} {xs:List α} {m c:Nat}
end
end Kd
section
variable {P:Program}
end
namespace Kd
section
variable {α β:Type} {d:Kd α} {d':Kd β} {e e' base base' n:Nat} {ok ok':Nat→Prop} {w W w1 W1:World} {v u:Value} {xs:List α} {ys:List β} {A:Option Addr} {c:Nat}
end
section
variable {α:Type} {enc:α→Value} {h1: ∀x,(enc x).oneCell'=true} {w W:World} {A:Option Addr} {n g:Nat} {xs:List α}
end
end Kd
namespace Kd
section
variable {α:Type} {d:Kd α} {e base g:Nat} {ok:Nat→Prop} {w w1:World} {v:Value} {xs:List α} {o:Obj}
end
end Kd
section
variable {P:Program} {ops:Array Oper} {rest:List Oper} {o:Oper} {a:Act} {Q:Exit→Act→World→Prop}
end
namespace Kd
section
variable {α:Type} {enc:α→Value} {h1: ∀x,(enc x).oneCell'=true} {e base g n cap:Nat} {ok:Nat→Prop} {W:World} {xs:List α}
end
end Kd
section
variable {P:Program} {ops:Array Oper} {rest:List Oper} {o:Oper} {a:Act} {Q:Exit→Act→World→Prop}
end
namespace Kd
section
variable {α:Type} {enc:α→Value} {h1: ∀x,(enc x).oneCell'=true} {e base g n cap:Nat} {ok:Nat→Prop} {W:World} {xs:List α}
end
end Kd
section
variable {P:Program} {ops:Array Oper} {rest:List Oper} {o:Oper} {a:Act} {Q:Exit→Act→World→Prop} {W:World}
end
section
variable {P:Program} {ops:Array Oper} {o:Oper} {a:Act} {Q:Exit→Act→World→Prop} {Kc:Act→World→Prop}
namespace Kd
variable {α:Type}
end Kd
end
section
variable {P:Program} {tmps:Array Value} {w:World}
end
namespace Kd
section
variable {P:Program} {α:Type}
end
section
variable {P:Program} {ops:Array Oper} {rest:List Oper} {o:Oper} {a:Act} {Q:Exit→Act→World→Prop} {Kc:Act→World→Prop} {α:Type}
end
end Kd
end Go.Proofs.YtkplnbjgkhmbcaaGreatDoorW.PrintWords
namespace Go.Proofs.YtkplnbjgkhmbcaaGreatDoor
open Go.RowKit Go.Shelf Go.Proofs.YtkplnbjgkhmbcaaGreatDoorW.PrintWords Go.Proofs.YtkplnbjgkhmbcaaGreatDoorW.PrintLast Go.Proofs.YtkplnbjgkhmbcaaGreatDoorW.PrintMore
set_option linter.unusedVariables false
set_option linter.unusedSimpArgs false
set_option maxRecDepth 100000 in
theorem listLen_c (g n:Nat) (A:Option Addr) (c:Nat) (w:World) (h:LT w g (.slice A n c)):Calls Tryz.prog 122 #[.pointer (some ⟨g,0,none⟩)] w fun e w'=>e= .returned (.int .i64 n)∧w'=w:=by
 have c0:=blk_cell h 0 _ rfl
 clear h
 go_enter Tryz.func122,Tryz.ntmps122
 go_wp2
 go_ret
 exact⟨rfl,rfl⟩
end Go.Proofs.YtkplnbjgkhmbcaaGreatDoor
namespace Go.Proofs.YtkplnbjgkhmbcaaGreatDoor
open Go.RowKit Go.Shelf Go.Proofs.YtkplnbjgkhmbcaaGreatDoorW.PrintWords Go.Proofs.YtkplnbjgkhmbcaaGreatDoorW.PrintLast Go.Proofs.YtkplnbjgkhmbcaaGreatDoorW.PrintMore Go.Proofs.YtkplnbjgkhmbcaaGreatDoor.PFnCompare Go.Proofs.YtkplnbjgkhmbcaaGreatDoor.PCmp Go.Proofs.YtkplnbjgkhmbcaaGreatDoor.PbytesOf
set_option linter.unusedVariables false
set_option linter.unusedSimpArgs false
theorem bitsOf_c (b:Nat) (w:World):Calls Tryz.prog 70 #[.float .f64 b] w fun e w'=>e= .returned (.int .u64 b)∧w'=w:=by
 have k:=call_bits
 go_enter Tryz.func70,Tryz.ntmps70
 go_wp2
 go_ret
 exact⟨rfl,rfl⟩
end Go.Proofs.YtkplnbjgkhmbcaaGreatDoor
namespace Go.Proofs.YtkplnbjgkhmbcaaGreatDoor
set_option linter.unusedVariables false
set_option linter.unusedSimpArgs false
def beB:Nat→Int→List Int
 |0,_=>[]
 |n+1,x=>(x/256^n%256)::beB n x
theorem beB_length (x:Int): ∀n,(beB n x).length=n
 |0=>rfl
 |n+1=>by simp[beB,beB_length x n]
theorem beB_bytes (x:Int): ∀n,Bytes (beB n x)
 |0=>fun y hy=>by cases hy
 |n+1=>fun y hy=>by
  rw[beB,List.mem_cons] at hy
  rcases hy with rfl|hy
  ·omega
  ·exact beB_bytes x n y hy
theorem beB_num (x:Int): ∀n,beN (beB n x)=x%256^n
 |0=>by simp[beB,beN,Int.emod_one]
 |n+1=>by
  rw[beB,beN_cons,beB_length,beB_num x n]
  have hp:=pow_pos n
  have h1:=Int.mul_ediv_add_emod x (256^n)
  have h2:=Int.mul_ediv_add_emod (x/256^n) 256
  have h3:=Int.emod_nonneg x (Int.ne_of_gt hp)
  have h4:=Int.emod_lt_of_pos x hp
  have e:x=256^(n+1)*(x/256^n/256)+(x/256^n%256*256^n+x%256^n):=by
   rw[Int.pow_succ]
   have:x/256^n%256=x/256^n-256*(x/256^n/256):=by omega
   rw[this,Int.sub_mul,Int.mul_assoc (256^n) 256,Int.mul_comm (256^n) (256*_),Int.mul_comm (x/256^n) (256^n)]
   omega
  have h5:0≤x/256^n%256:=by omega
  have h6:x/256^n%256≤255:=by omega
  have h7:0≤x/256^n%256*256^n:=Int.mul_nonneg h5 (Int.le_of_lt hp)
  have h8:x/256^n%256*256^n≤255*256^n:=Int.mul_le_mul_of_nonneg_right h6 (Int.le_of_lt hp)
  have h9:(256:Int)^(n+1)=256*256^n:=by rw[Int.pow_succ,Int.mul_comm]
  have h10:(256^(n+1)*(x/256^n/256)+(x/256^n%256*256^n+x%256^n))%256^(n+1)=x/256^n%256*256^n+x%256^n:=by
   rw[Int.mul_add_emod_self_left,Int.emod_eq_of_lt]<;>omega
  rw[←e] at h10
  exact h10.symm
theorem beB_step (n i:Nat) (x:Int) (b:Int) (hb:b=x/256^n%256):(List.replicate (i+1) 0++beB n x).set i b=List.replicate i 0++beB (n+1) x:=by
 subst hb
 rw[List.replicate_succ']
 simp[beB,List.set_append]
theorem beB_full (n:Nat) (x:Int) (h:0≤x) (hx:x<256^n):beN (beB n x)=x:=by rw[beB_num,Int.emod_eq_of_lt h hx]
theorem word_byte (zs:List Int) (hw:Words zs) (k j:Nat) (hk:k<zs.length) (hj:j<8):zs[k]/256^j%256=leN zs/256^(8*k+j)%256:=by
 have e:zs=zs.take k++(zs[k]::zs.drop (k+1)):=by rw[←List.drop_eq_getElem_cons hk,List.take_append_drop]
 have hl:(zs.take k).length=k:=by rw[List.length_take];omega
 have hn:leN zs=leN (zs.take k)+18446744073709551616^k*(zs[k]+18446744073709551616*leN (zs.drop (k+1))):=by
  conv=>lhs;rw[e]
  rw[leN_append,hl,leN_cons]
 have hb:=leN_bd (zs.take k) (fun x hx=>hw x (List.mem_of_mem_take hx))
 rw[hl] at hb
 have hpow:(256:Int)^(8*k+j)=18446744073709551616^k*256^j:=by
  rw[Int.pow_add,Int.pow_mul,pow256_8]
 have hdiv:leN zs/18446744073709551616^k=zs[k]+18446744073709551616*leN (zs.drop (k+1)):=by
  rw[hn,Int.add_mul_ediv_left _ _ (Int.ne_of_gt (wpos k)),Int.ediv_eq_zero_of_lt hb.1 hb.2,Int.zero_add]
 rw[hpow,←Int.ediv_ediv_of_nonneg (Int.le_of_lt (wpos k)),hdiv]
 have hs:(18446744073709551616:Int)=256^j*(256*256^(7-j)):=by
  rw[←pow256_8,show 8=j+(1+(7-j)) by omega,Int.pow_add,Int.pow_add,Int.pow_one]
 conv=>rhs;rw[hs,Int.mul_assoc,Int.add_mul_ediv_left _ _ (Int.ne_of_gt (pow_pos j)),Int.mul_assoc,Int.add_mul_emod_self_left]
theorem cutL_at (l:List Int) (i:Nat) (hi:i≤l.length) (h0: ∀m (h:m<l.length),m<i→l[m]=0) (h1: ∀h:i<l.length,l[i]≠0):cutL l=l.drop i:=by
 induction i generalizing l with
 |zero=>
  cases l with
  |nil=>rfl
  |cons a r=>
   have:=h1 (by simp)
   simp at this
   simp[cutL,this]
 |succ i ih=>
  cases l with
  |nil=>simp at hi
  |cons a r=>
   have ha:=h0 0 (by simp) (by omega)
   simp at ha
   subst ha
   rw[show cutL (0::r)=cutL r by simp[cutL],List.drop_succ_cons]
   refine ih r (by simpa using hi) (fun m hm hlt=>?_) (fun hlt=>?_)
   ·have:=h0 (m+1) (by simpa using hm) (by omega)
    simpa using this
   ·have:=h1 (by simpa using hlt)
    simpa using this
theorem good_len {n m:Bool} {a b:List Int} (ga:Good n a) (gb:Good m b) (h:beN a=beN b):a.length=b.length:=by
 rcases Nat.lt_trichotomy a.length b.length with h1|h1|h1
 ·have:=beN_longer a b ga.bytes gb.bytes gb.lead h1;omega
 ·exact h1
 ·have:=beN_longer b a gb.bytes ga.bytes ga.lead h1;omega
theorem good_one {n m:Bool} {a b:List Int} (ga:Good n a) (gb:Good m b) (h:val n a=val m b):n=m∧a.length=b.length:=by
 have ha:=beN_bd a ga.bytes
 have hb:=beN_bd b gb.bytes
 have hnm:n=m:=by
  cases n<;>cases m
  ·rfl
  ·have:b=[]:=Classical.byContradiction fun hne=>by have:=gb.pos hne;simp[val] at h;omega
   exact(gb.zero this).symm
  ·have:a=[]:=Classical.byContradiction fun hne=>by have:=ga.pos hne;simp[val] at h;omega
   exact(ga.zero this)
  ·rfl
 subst hnm
 refine⟨rfl,good_len ga gb ?_⟩
 cases n<;>simp[val] at h<;>omega
end Go.Proofs.YtkplnbjgkhmbcaaGreatDoor
namespace Go.Proofs.YtkplnbjgkhmbcaaGreatDoor
open Go.RowKit Go.Shelf Go.Proofs.YtkplnbjgkhmbcaaGreatDoorW.PrintWords Go.Proofs.YtkplnbjgkhmbcaaGreatDoorW.PrintLast Go.Proofs.YtkplnbjgkhmbcaaGreatDoorW.PrintMore Go.Proofs.YtkplnbjgkhmbcaaGreatDoor.PFnCompare Go.Proofs.YtkplnbjgkhmbcaaGreatDoor.PCmp Go.Proofs.YtkplnbjgkhmbcaaGreatDoor.PbytesOf
set_option linter.unusedVariables false
set_option linter.unusedSimpArgs false
structure Alike (x y:VT):Prop where
 kind:x.f0=y.f0
 kx:x.f5=[]
 ky:y.f5=[]
 text:x.f4=y.f4
 bits:x.f0=1∨x.f0=3→x.f3=y.f3
 int:x.f0=2→Good x.f1 x.f2∧Good y.f1 y.f2∧x.f1=y.f1∧x.f2.length=y.f2.length∧val x.f1 x.f2=val y.f1 y.f2
theorem canon_alike {s:Sca} {x y:VT} (hx:Canon s x) (hy:Canon s y):Alike x y:=by
 refine⟨hx.kind.trans hy.kind.symm,hx.kids,hy.kids,?_,?_,?_⟩
 ·cases s
  ·have:=hx.kind;have:=hy.kind;rw[hx.text (by simp_all[Sca.kind]) (by simp_all[Sca.kind]),hy.text (by simp_all[Sca.kind]) (by simp_all[Sca.kind])]
  ·have:=hx.kind;have:=hy.kind;rw[hx.text (by simp_all[Sca.kind]) (by simp_all[Sca.kind]),hy.text (by simp_all[Sca.kind]) (by simp_all[Sca.kind])]
  ·have:=hx.kind;have:=hy.kind;rw[hx.text (by simp_all[Sca.kind]) (by simp_all[Sca.kind]),hy.text (by simp_all[Sca.kind]) (by simp_all[Sca.kind])]
  ·have:=hx.kind;have:=hy.kind;rw[hx.text (by simp_all[Sca.kind]) (by simp_all[Sca.kind]),hy.text (by simp_all[Sca.kind]) (by simp_all[Sca.kind])]
  ·rw[(canon_str hx).2,(canon_str hy).2]
  ·rw[(canon_bytes hx).2,(canon_bytes hy).2]
 ·have hk:=hx.kind
  cases s<;>simp[Sca.kind] at hk<;>intro h<;>first|omega|skip
  ·rw[(canon_bool hx).2,(canon_bool hy).2]
  ·rw[(canon_float hx).2,(canon_float hy).2]
 ·have hk:=hx.kind
  cases s<;>simp[Sca.kind] at hk<;>intro h<;>first|omega|skip
  obtain⟨_,g1,v1⟩:=canon_int hx
  obtain⟨_,g2,v2⟩:=canon_int hy
  obtain⟨a,b⟩:=good_one g1 g2 (v1.trans v2.symm)
  exact⟨g1,g2,a,b,v1.trans v2.symm⟩
end Go.Proofs.YtkplnbjgkhmbcaaGreatDoor
namespace Go.Proofs.YtkplnbjgkhmbcaaGreatDoor
open Go.RowKit Go.Shelf Go.Proofs.YtkplnbjgkhmbcaaGreatDoorW.PrintWords Go.Proofs.YtkplnbjgkhmbcaaGreatDoorW.PrintLast Go.Proofs.YtkplnbjgkhmbcaaGreatDoorW.PrintMore
set_option linter.unusedVariables false
set_option linter.unusedSimpArgs false
def NewB (w:World) (x:Int) (e:Ending) (w':World):Prop:=
 ∃g n v zs,w.heap.size≤g∧e= .returned (.pointer (some ⟨g,0,none⟩))∧PI w' g 0 n v zs∧(zs=[]→n=false)∧bval n zs=x∧zs.length≤8∧Below w.heap.size w w'
set_option maxRecDepth 100000 in
theorem bigIntM_c (B:Nat) (u:Value) (x:Int) (w:World) (h:SIv B w u x) (hx:x.natAbs<256^60):
 Calls Tryz.prog 107 #[u] w (NewB w x):=by
 have HF:=Lib.hid (fun n zs hw ht hv=>few_words n zs x hw ht hv hx)
 clear hx
 rcases h with⟨hs,rfl⟩|⟨hs,g,neg,v,zs,rfl,hg,hb,hv,hl⟩
 ·have HR:=Lib.hid (fun w':World=>newInt_c x w' hs)
  clear hs HF
  go_enter Tryz.func107,Tryz.ntmps107
  go_wp2_with (first
   |(go_at_call 98;(with_reducible refine(get_c _ _ _).mono ?_);rintro e w1 ⟨rfl,hb1⟩;have HB:=Lib.hid (((Below.refl _ w).alloc (Nat.le_refl _) _).trans (hb1.mono (by simp)));clear hb1)
   |(go_at_call 144;(with_reducible refine(HR.out _).mono ?_);rintro e w2 ⟨g,n,v,zs,h1,rfl,h2,h3,h4,h5,h6⟩;have HE:=Lib.hid (And.intro h1 (And.intro h2 (And.intro h3 (And.intro h4 (And.intro h5 h6)))));clear h1 h2 h3 h4 h5 h6))
  go_ret
  obtain⟨h1,h2,h3,h4,h5,h6⟩:=HE.out
  exact⟨g,n,v,zs,Nat.le_trans HB.out.size h1,rfl,h2,h3,h4,by omega,HB.out.trans (h6.mono HB.out.size)⟩
 ·have hzs:=HF.out neg zs hb.words hb.top hv
  have hne:zs≠[]:=by
   rintro rfl
   rw[show x=0 by rw[←hv];unfold bval;cases neg<;>rfl] at hs
   cases hs
  have HP:Hid (∀w1,Below w.heap.size w w1→PI w1 g 0 neg v zs∧w1.heap.size≠g):=Lib.hid fun w1 h1=>by
   have h2:=hb.below h1
   refine⟨⟨⟨_,_,h2.blk,rfl,rfl⟩,h2.sl.mono (Nat.zero_le _),h2.words,h2.top⟩,?_⟩
   have:=h1.size;have:=lt_blk hb.blk;omega
  have HS:=Lib.hid (fun(w1:World) (h1:Below w.heap.size w w1)=>intSetAt_c g 0 w1.heap.size 0 neg false v zs (w1.alloc (.cells #[.bool false, .slice none 0 0] 196)) (HP.out _ (h1.alloc h1.size _)).1 hne (by omega) (HP.out w1 h1).2 (blk_new _ _) rfl rfl)
  have HE:Hid (∀w1 e w2,Below w.heap.size w w1→WroteL (w1.alloc (.cells #[.bool false, .slice none 0 0] 196)) w1.heap.size 0 zs neg e w2→NewB w x e w2):=Lib.hid fun w1 e w2 hb1 hw=>by
   obtain⟨he,W,c,rfl,hc,hr,hbW,hszW⟩:=hw
   have hk:W.heap[w1.heap.size]?=some (.cells #[.bool false, .slice none 0 0] 196 (0,0)):=blk_below (blk_new _ _) hbW
   have hsl:=hr.sl' hszW hc (by omega)
   refine⟨w1.heap.size,neg,_,zs,hb1.size,he,⟨⟨_,_,blk_put (blk_put hk 1 _ rfl) 0 _ rfl,rfl,rfl⟩,?_,hb.words,hb.top⟩,fun h=>absurd h hne,hv,hzs,?_⟩
   ·exact((((hsl.mono (by simp:w1.heap.size+1≤_)).setCell (p:=⟨w1.heap.size,0+1,none⟩) _ (by show w1.heap.size<w1.heap.size+1;omega)).setCell (p:=⟨w1.heap.size,0,none⟩) _ (by show w1.heap.size<w1.heap.size+1;omega))).mono (Nat.zero_le _)
   ·have hB2:=hb1.alloc hb1.size (.cells #[.bool false, .slice none 0 0] 196)
    exact((hB2.trans (hbW.mono hB2.size)).setCell (p:=⟨w1.heap.size,0+1,none⟩) hb1.size _).setCell (p:=⟨w1.heap.size,0,none⟩) hb1.size _
  clear hs HF hzs hne hb hl hv HP
  go_enter Tryz.func107,Tryz.ntmps107
  go_wp2_with (first
   |(go_at_call 98;(with_reducible refine(get_c _ _ _).mono ?_);rintro e w1 ⟨rfl,hb1⟩;have HB:=Lib.hid (((Below.refl _ w).alloc (Nat.le_refl _) _).trans (hb1.mono (by simp)));clear hb1)
   |(go_at_call 132;(with_reducible refine(HS.out _ HB.out).mono ?_);intro e w2 hw2;replace HE:=Lib.hid (HE.out _ _ _ HB.out hw2);obtain⟨rfl,_⟩:=hw2))
  go_ret
  exact HE.out
end Go.Proofs.YtkplnbjgkhmbcaaGreatDoor
namespace Go.Proofs.YtkplnbjgkhmbcaaGreatDoor
open Go.RowKit Go.Shelf Go.Proofs.YtkplnbjgkhmbcaaGreatDoorW.PrintWords Go.Proofs.YtkplnbjgkhmbcaaGreatDoorW.PrintLast Go.Proofs.YtkplnbjgkhmbcaaGreatDoorW.PrintMore
set_option linter.unusedVariables false
set_option linter.unusedSimpArgs false
set_option maxRecDepth 100000 in
theorem isign_c (g o:Nat) (n:Bool) (v:Value) (zs:List Int) (w:World) (h:PI w g o n v zs) (hz:zs=[]→n=false) (hl:zs.length≤1000000):
 Calls Tryz.prog 108 #[.pointer (some ⟨g,o,none⟩)] w fun e w'=>e= .returned (.int .i64 (if zs=[] then 0 else if n then-1 else 1))∧w'=w:=by
 obtain⟨A,k,rfl,_⟩:=h.sl.c
 have c0:=h.c0
 have c1:=h.c1
 clear h
 by_cases he:zs=[]
 ·subst he
  rw[if_pos rfl]
  go_enter Tryz.func108,Tryz.ntmps108
  go_wp2
  go_ret
  exact⟨rfl,rfl⟩
 ·rw[if_neg he]
  have hlen:((zs.length:Int)==0)=false:=by
   have:zs.length≠0:=fun h=>he (List.eq_nil_of_length_eq_zero h)
   simp;omega
  cases n
  all_goals
   go_enter Tryz.func108,Tryz.ntmps108
   go_wp2
   go_ret
   exact⟨rfl,rfl⟩
end Go.Proofs.YtkplnbjgkhmbcaaGreatDoor
namespace Go.Proofs.YtkplnbjgkhmbcaaGreatDoor
open Go.RowKit Go.Shelf Go.Proofs.YtkplnbjgkhmbcaaGreatDoorW.PrintWords Go.Proofs.YtkplnbjgkhmbcaaGreatDoorW.PrintLast Go.Proofs.YtkplnbjgkhmbcaaGreatDoorW.PrintMore
set_option linter.unusedVariables false
set_option linter.unusedSimpArgs false
def BRow (w0:World) (M N n:Nat) (X:Int) (w:World):Prop:=IRow .u8 w M (List.replicate (N-n) 0++beB n X)∧Below M w0 w
theorem BRow.step {w0 w:World} {M N n p:Nat} {X x:Int} (h:BRow w0 M N n X w) (hp:p+1+n=N) (hx:x%256=X/256^n%256):
 (∃u,w.cell? ⟨M,p,none⟩=some (.int .u8 u))∧w.frozen? ⟨M,p,none⟩=false∧BRow w0 M N (n+1) X (w.setCell ⟨M,p,none⟩ (.int .u8 (x%256))):=by
 have hlen:(List.replicate (N-n) 0++beB n X).length=N:=by rw[List.length_append,List.length_replicate,beB_length];omega
 obtain⟨q1,q2,q3,q4⟩:=irow_step (v:=x%256) h.1 (j:=p) (by omega) h.2 (Nat.le_refl _)
 refine⟨⟨_,q1⟩,q2,?_,q4⟩
 rw[show N-n=p+1 by omega,beB_step n p X _ hx] at q3
 rw[show N-(n+1)=p by omega]
 exact q3
set_option maxRecDepth 100000 in
set_option maxHeartbeats 1000000 in
theorem natBytes_c (A:Option Addr) (c M:Nat) (zs:List Int) (w:World) (hw:Words zs) (hn:zs.length≤1000000) (hz:zs≠[]→ ∃b o,A=some ⟨b,o,none⟩∧b<M∧ ∀j (h:j<zs.length),w.cell? ⟨b,o+j,none⟩=some (.int .u64 zs[j])) (hr:BRow w M (8*zs.length) 0 (leN zs) w):
 Calls Tryz.prog 145 #[.slice A zs.length c, .slice (some ⟨M,0,none⟩) (8*zs.length) (8*zs.length)] w fun e w'=> ∃i:Nat,e= .returned (.int .i64 i)∧i≤8*zs.length∧cutL (beB (8*zs.length) (leN zs))=(beB (8*zs.length) (leN zs)).drop i∧BRow w M (8*zs.length) (8*zs.length) (leN zs) w':=by
 have HZ:=Lib.hid hz
 have HR0:=Lib.hid hr
 have HW:=Lib.hid hw
 have HWB:=Lib.hid (word_byte zs hw)
 obtain⟨X,hX⟩: ∃X,leN zs=X:=⟨_,rfl⟩
 rw[hX] at HR0 HWB⊢
 clear hz hr hw hX
 obtain⟨N,hN⟩: ∃N,8*zs.length=N:=⟨_,rfl⟩
 rw[hN] at HR0⊢
 go_enter Tryz.func145,Tryz.ntmps145
 go_wp2_with fail
 go_loopw [4,12] (fun a d wr=> ∃i k:Nat,a= .int .i64 (i:Nat)∧d= .int .i64 (k:Nat)∧k≤zs.length∧i+8*k=N∧Hid (BRow w M N (8*k) X wr)) (fun _ d _=>zs.length-(intOf d).toNat)
 case atStart=>exact⟨N,0,rfl,rfl,Nat.zero_le _,by omega,HR0⟩
 case round=>
  obtain⟨i,k,rfl,rfl,hk,hik,HB⟩:=hrel
  by_cases hlt:k<zs.length
  ·obtain⟨b,o,rfl,hbM,hcell⟩:=HZ.out (by intro e;rw[e] at hlt;simp at hlt)
   have ck:=(HB.out.2.cell (p:=⟨b,o+k,none⟩) hbM).trans (hcell k hlt)
   clear hcell
   go_wp2_with fail
   go_loopw [4,6,7] (fun a d jj wq=> ∃i2 j:Nat,j≤8∧a= .int .i64 (i2:Nat)∧d= .int .u64 (zs[k]/256^j)∧jj= .int .i64 (j:Nat)∧i2+8*k+j=N∧Hid (BRow w M N (8*k+j) X wq)) (fun _ _ jj _=>8-(intOf jj).toNat)
   case atStart=>exact⟨i,0,by omega,rfl,by simp,rfl,by omega,HB⟩
   case round=>
    obtain⟨i2,j,hj,rfl,rfl,rfl,hi2,HB2⟩:=hrel
    by_cases h8:j<8
    ·obtain⟨p,rfl⟩: ∃p,i2=p+1:=⟨i2-1,by omega⟩
     have hx:=HWB.out k j hlt h8
     have hd:=Int.ediv_ediv_of_nonneg (x:=zs[k]) (y:=256^j) (z:=256) (Int.le_of_lt (pow_pos j))
     rw[←Int.pow_succ] at hd
     obtain⟨x,hxx⟩: ∃x,zs[k]/256^j=x:=⟨_,rfl⟩
     rw[hxx] at hx hd⊢
     obtain⟨⟨u,s1⟩,s2,s3⟩:=HB2.out.step (x:=x) (p:=p) (by omega) hx
     have S3:=Lib.hid s3
     clear s3 hx hxx
     go_wp2
     go_roundw
     case rel=>exact⟨p,j+1,by omega,by go_num,by rw[←hd],by go_num,by omega,S3⟩
     case measure=>simp[intOf];omega
    ·obtain rfl:j=8:=by omega
     go_wp2
     go_roundw
     case rel=>exact⟨i2,k+1,by go_num,by go_num,by omega,by omega,HB2⟩
     case measure=>simp[intOf];omega
  ·obtain rfl:k=zs.length:=by omega
   obtain rfl:i=0:=by omega
   rw[hN] at HB
   have HL:Hid ((beB N X).length=N):=Lib.hid (beB_length X N)
   have HI:Hid (∀m (h:m<N),wr.cell? ⟨M,m,none⟩=some (.int .u8 ((beB N X)[m]'(by rw[HL.out];exact h)))):=Lib.hid fun m h=>by
    have:=HB.out.1.1 m (by simp[HL.out];exact h)
    rw[this]
    congr 2
    simp
   go_wp2_with fail
   go_loopw [4] (fun a wq=> ∃m:Nat,m≤N∧a= .int .i64 (m:Nat)∧Hid (∀q (h:q<(beB N X).length),q<m→(beB N X)[q]=0)∧wq=wr) (fun a _=>N-(intOf a).toNat)
   case atStart=>exact⟨0,by omega,rfl,Lib.hid fun q h h2=>absurd h2 (Nat.not_lt_zero _),rfl⟩
   case round=>
    obtain⟨m,hm,rfl,HQ,rfl⟩:=hrel
    by_cases hlm:m<N
    ·have cm:=HI.out m hlm
     have hmL:m<(beB N X).length:=by rw[HL.out];exact hlm
     obtain⟨y,hy⟩: ∃y,(beB N X)[m]=y:=⟨_,rfl⟩
     rw[hy] at cm
     have HY:=Lib.hid hy
     clear hy
     by_cases h0:y=0
     ·subst h0
      go_wp2
      go_roundw
      case rel=>exact⟨m+1,by omega,by go_num,Lib.hid fun q h h2=>by rcases Nat.lt_succ_iff_lt_or_eq.1 h2 with h3|h3;exact HQ.out q h h3;subst h3;exact HY.out,trivial⟩
      case measure=>simp[intOf];omega
     ·have h0b:(y==0)=false:=by simp[h0]
      have H0:=Lib.hid h0
      clear h0
      go_wp2
      go_ret
      exact⟨m,rfl,hm,cutL_at _ m (by rw[HL.out];exact hm) HQ.out (fun h=>by rw[HY.out];exact H0.out),HB.out⟩
    ·obtain rfl:m=N:=by omega
     go_wp2
     go_ret
     exact⟨m,rfl,hm,cutL_at _ m (by rw[HL.out];exact Nat.le_refl _) HQ.out (fun h=>absurd h (by rw[HL.out];omega)),HB.out⟩
end Go.Proofs.YtkplnbjgkhmbcaaGreatDoor
namespace Go.Proofs.YtkplnbjgkhmbcaaGreatDoor
open Go.RowKit Go.Shelf Go.Proofs.YtkplnbjgkhmbcaaGreatDoorW.PrintWords Go.Proofs.YtkplnbjgkhmbcaaGreatDoorW.PrintLast Go.Proofs.YtkplnbjgkhmbcaaGreatDoorW.PrintMore
set_option linter.unusedVariables false
set_option linter.unusedSimpArgs false
theorem cut_bytes (M N i:Nat) (hi:i≤N): ∃A',(∀W:World,(Instr.slice 22 (.slice (some ⟨M,0,none⟩) N N) (some (.int .i64 (i:Int))) none none).run Tryz.prog W= .ok (.slice A' (N-i) (N-i)) W)∧(i<N→A'=some ⟨M,i,none⟩):=by
 obtain⟨i0,hi0,hz⟩:=Option.map_eq_some_iff.1 byteInfo
 simp only[Prod.mk.injEq] at hz
 have ht:=Tryz.underlying22
 have hel:Tryz.prog.elem 22=5:=by simp[Program.elem,ht]
 have hu:Tryz.prog.underlying 22=some (.slice (Tryz.prog.elem 22)):=by rw[hel];exact ht
 refine⟨if N=i then some ⟨M,0,none⟩ else(some ⟨M,0,none⟩:Option Addr).map (·.add i),fun W=>?_,fun h=>?_⟩
 ·rw[run_slice_l W 22 (some ⟨M,0,none⟩) N N hu .i64 (i:Int) (Int.natCast_nonneg _) (by omega),hel]
  simp[sizeOf,typeInfo,hi0,hz.2.1,sliced,Result.andThen]
 ·rw[if_neg (by omega)]
  simp[add_off]
theorem row_sl {w:World} {B M i:Nat} {l:List Int} {A':Option Addr} (h:IRow .u8 w M l) (hB:B≤M) (hi:i≤l.length) (hA:i<l.length→A'=some ⟨M,i,none⟩) (hl:l.length≤9223372036854775807):Sl .u8 B w (.slice A' (l.length-i) (l.length-i)) (l.drop i):=by
 have e:(l.drop i).length=l.length-i:=by simp
 refine⟨A',l.length-i,by rw[e],by omega,by omega,fun hne=>?_⟩
 have hlt:i<l.length:=by
  rcases Nat.lt_or_ge i l.length with h1|h1
  ·exact h1
  ·exact absurd (List.drop_eq_nil_of_le h1) hne
 refine⟨M,i,hA hlt,hB,lt_of_cell (h.1 i hlt),fun j hj=>?_⟩
 rw[h.1 (i+j) (by omega)]
 simp
def BytesR (w:World) (X:Int) (N:Nat) (e:Ending) (w':World):Prop:=
 ∃A c,e= .returned (.slice A (cutL (beB N X)).length c)∧Sl .u8 w.heap.size w' (.slice A (cutL (beB N X)).length c) (cutL (beB N X))∧Below w.heap.size w w'
set_option maxRecDepth 100000 in
theorem intBytes_c (g:Nat) (n:Bool) (v:Value) (zs:List Int) (w:World) (h:PI w g 0 n v zs) (hl:zs.length≤100000):
 Calls Tryz.prog 109 #[.pointer (some ⟨g,0,none⟩)] w (BytesR w (leN zs) (8*zs.length)):=by
 obtain⟨A,c,rfl,hlc,hlm,hcell⟩:=h.sl
 have c1:w.cell? ⟨g,1,none⟩=some (.slice A zs.length c):=by simpa using h.c1
 have hg:=h.lt
 obtain⟨i0,hi0,hz0,hz1,hz2⟩:=info_parts byteInfo
 have hmk:=run_make (P:=Tryz.prog) w 22 5 i0 (.int .u8 0) Tryz.underlying22 hi0 hz0 .i64 .i64 ((zs.length:Int)*8) ((zs.length:Int)*8) (by omega) (by omega) (by rw[hz2];omega) (by omega)
 have hcl:(Value.int .u8 0).cells=#[.int .u8 0]:=rfl
 rw[hz1,Nat.mul_one,hcl,show((zs.length:Int)*8).toNat=8*zs.length by omega] at hmk
 have HB0:Hid (Below w.heap.size w (w.alloc (.cells (madeCells #[.int .u8 0] (8*zs.length)) 5))):=Lib.hid ((Below.refl _ w).alloc (Nat.le_refl _) _)
 have c1a:=(HB0.out.cell (p:=⟨g,1,none⟩) hg).trans c1
 have HN:=Lib.hid (natBytes_c A c w.heap.size zs (w.alloc (.cells (madeCells #[.int .u8 0] (8*zs.length)) 5)) h.words (by omega) (fun hne=>by
  obtain⟨b,o,rfl,_,hlt,hc⟩:=hcell hne
  exact⟨b,o,rfl,hlt,fun j hj=>(HB0.out.cell (p:=⟨b,o+j,none⟩) hlt).trans (hc j hj)⟩)
  ⟨by simp[beB];exact irow_zeros w .u8 (8*zs.length) (8*zs.length) _ (Nat.le_refl _),Below.refl _ _⟩)
 clear hcl hz0 hz1 hz2 hi0 h hcell
 go_enter Tryz.func109,Tryz.ntmps109
 go_wp2_with (go_at_call 145;(with_reducible refine HN.out.mono ?_);rintro e w1 ⟨i,rfl,hi,hcut,hrow⟩;obtain⟨A2,hsl,hA2⟩:=cut_bytes w.heap.size (8*zs.length) i hi;have HX:=Lib.hid (And.intro hcut (And.intro hrow (And.intro hA2 hi)));clear hcut hrow hA2 hi)
 go_ret
 obtain⟨hcut,hrow,hA2,hi⟩:=HX.out
 have hlen:=beB_length (leN zs) (8*zs.length)
 have hr:IRow .u8 w1 w.heap.size (beB (8*zs.length) (leN zs)):=by have:=hrow.1;simpa using this
 have hs:=row_sl (B:=w.heap.size) hr (Nat.le_refl _) (i:=i) (A':=A2) (by omega) (fun h=>hA2 (by omega)) (by omega)
 rw[hlen,←hcut] at hs
 have hlc2:(cutL (beB (8*zs.length) (leN zs))).length=8*zs.length-i:=by rw[hcut,List.length_drop,hlen]
 exact⟨A2,8*zs.length-i,by rw[hlc2];rfl,by rw[hlc2];exact hs,HB0.out.trans hrow.2⟩
end Go.Proofs.YtkplnbjgkhmbcaaGreatDoor
namespace Go.Proofs.YtkplnbjgkhmbcaaGreatDoor
open Go.RowKit Go.Shelf Go.Proofs.YtkplnbjgkhmbcaaGreatDoorW.PrintWords Go.Proofs.YtkplnbjgkhmbcaaGreatDoorW.PrintLast Go.Proofs.YtkplnbjgkhmbcaaGreatDoorW.PrintMore Go.Proofs.YtkplnbjgkhmbcaaGreatDoor.PFnCompare Go.Proofs.YtkplnbjgkhmbcaaGreatDoor.PCmp Go.Proofs.YtkplnbjgkhmbcaaGreatDoor.PbytesOf
set_option linter.unusedVariables false
set_option linter.unusedSimpArgs false
def NumV (B:Nat) (w:World) (v:Value) (x:Int):Prop:=
 ∃n A c l,v= .agg #[.int .i64 2, .bool n, .slice A l.length c, .int .u64 0, .string ⟨#[]⟩, .slice none 0 0]∧Sl .u8 B w (.slice A l.length c) l∧Good n l∧val n l=x∧l.length≤1000
theorem numV_of {B:Nat} {w:World} {n:Bool} {A:Option Addr} {c:Nat} {zs:List Int} (hw:Words zs) (hz:zs=[]→n=false) (hl:zs.length≤8) (ht:Top zs)
 (h:Sl .u8 B w (.slice A (cutL (beB (8*zs.length) (leN zs))).length c) (cutL (beB (8*zs.length) (leN zs)))):
 NumV B w (.agg #[.int .i64 2, .bool n, .slice A (cutL (beB (8*zs.length) (leN zs))).length c, .int .u64 0, .string ⟨#[]⟩, .slice none 0 0]) (bval n zs):=by
 have hb:=leN_bd zs hw
 have hnum:beN (cutL (beB (8*zs.length) (leN zs)))=leN zs:=by
  rw[cutL_num,beB_full _ _ hb.1]
  rw[Int.pow_mul,pow256_8];exact hb.2
 have hlen:(cutL (beB (8*zs.length) (leN zs))).length≤64:=by
  have:=cutL_length (beB (8*zs.length) (leN zs));rw[beB_length] at this;omega
 refine⟨n,A,c,_,rfl,h,⟨cutL_bytes _ (beB_bytes _ _),cutL_lead _,fun e=>?_,by omega⟩,?_,by omega⟩
 ·refine hz (Classical.byContradiction fun hne=>?_)
  have h1:=leN_top zs hw ht hne
  have h2:=wpos (zs.length-1)
  rw[e] at hnum
  simp[beN] at hnum
  omega
 ·unfold val bval
  rw[hnum]
theorem isign2_c (g o:Nat) (n:Bool) (v:Value) (zs:List Int) (w:World) (h:PI w g o n v zs) (hz:zs=[]→n=false) (hl:zs.length≤1000000):
 Calls Tryz.prog 108 #[.pointer (some ⟨g,o,none⟩)] w fun e w'=> ∃s:Int,e= .returned (.int .i64 s)∧decide (s<0)=n∧w'=w:=
 (isign_c g o n v zs w h hz hl).mono fun e w' ⟨h1,h2⟩=>⟨_,h1,(by
  by_cases he:zs=[]
  ·rw[if_pos he,hz he];rfl
  ·rw[if_neg he];cases n<;>rfl),h2⟩
set_option maxRecDepth 100000 in
theorem number_of_c (B:Nat) (u:Value) (x:Int) (w:World) (h:SIv B w u x) (hx:x.natAbs<256^60):
 Calls Tryz.prog 69 #[u] w fun e w'=> ∃v,e= .returned v∧NumV w.heap.size w' v x∧Below w.heap.size w w':=by
 obtain⟨y,p,rfl⟩:=h.shape
 obtain⟨W0,hW0⟩: ∃W,W=(w.alloc (.cells #[.int .i64 y, .pointer p] 122)).alloc (.cells #[.int .i64 0, .bool false, .slice none 0 0, .int .u64 0, .string ⟨#[]⟩, .slice none 0 0] 26):=⟨_,rfl⟩
 have HB0:Hid (Below w.heap.size w W0):=by rw[hW0];exact Lib.hid (((Below.refl _ w).alloc (Nat.le_refl _) _).alloc (by simp) _)
 have HK0:Hid (W0.heap[w.heap.size+1]?=some (.cells #[.int .i64 0, .bool false, .slice none 0 0, .int .u64 0, .string ⟨#[]⟩, .slice none 0 0] 26 (0,0))):=by rw[hW0];exact Lib.hid (by simpa using blk_new (w.alloc (.cells #[.int .i64 y, .pointer p] 122)) _)
 have HBI:=Lib.hid (bigIntM_c B _ x W0 (h.below HB0.out) hx)
 have HC:Hid (W0.cell? ⟨w.heap.size,0,none⟩=some (.int .i64 y)∧W0.cell? ⟨w.heap.size,1,none⟩=some (.pointer p)):=by
  rw[hW0]
  exact Lib.hid ⟨blk_cell (blk_alloc (blk_new w _) _) 0 _ rfl,blk_cell (blk_alloc (blk_new w _) _) 1 _ rfl⟩
 clear h hx
 go_enter Tryz.func69,Tryz.ntmps69
 go_wp2_with fail
 rw[←hW0]
 clear hW0
 have k0:=HC.out.1
 have k1:=HC.out.2
 go_wp2_with (first
  |(go_at_call 107;(with_reducible refine HBI.out.mono ?_);rintro e w1 ⟨g,n,v,zs,hg,rfl,hp,hz,hv,hl,hb⟩;have HP:=Lib.hid (And.intro hp (And.intro hz (And.intro hv (And.intro hl (And.intro hb (blk_below HK0.out hb))))));clear hg hp hz hv hl hb)
  |(go_at_call 108;(with_reducible refine(isign2_c _ _ _ _ _ _ HP.out.1 HP.out.2.1 (by have:=HP.out.2.2.2.1;omega)).mono ?_);rintro e w2 ⟨s,rfl,hs,hw1⟩;have hw2:=hw1.symm;clear hw1;subst hw2)
  |(go_at_call 109;(with_reducible refine(intBytes_c _ _ _ _ _ HP.out.1 (by have:=HP.out.2.2.2.1;omega)).mono ?_);rintro e w3 ⟨A,c,rfl,hsl,hb3⟩;have HX:=Lib.hid (And.intro hsl hb3);obtain⟨x0,x1,x2,x3,x4,x5⟩:=cells6 (blk_below HP.out.2.2.2.2.2 hb3);have hfz:=fun o=>blk_free (blk_below HP.out.2.2.2.2.2 hb3) o;clear hsl hb3))
 refine bodyPost_ret (v:= .agg #[.int .i64 2, .bool n, .slice A (cutL (beB (8*zs.length) (leN zs))).length c, .int .u64 0, .string ⟨#[]⟩, .slice none 0 0]) (by simp[results,Tryz.results69,go_sem,x0,x1,x2,x3,x4,x5]) rfl ?_
 obtain⟨hp,hz,hv,hl,hb,hk⟩:=HP.out
 obtain⟨hsl,hb3⟩:=HX.out
 have h01:=lt_blk HK0.out
 have h12:=hb.size
 have hlt:w.heap.size+1<w1.heap.size:=by omega
 have h02:=HB0.out.size
 refine⟨_,rfl,?_,?_⟩
 ·rw[←hv]
  exact numV_of hp.words hz hl hp.top (((((((hsl.setCell (p:=⟨w.heap.size+1,0,none⟩) _ hlt).setCell (p:=⟨w.heap.size+1,1,none⟩) _ hlt).setCell (p:=⟨w.heap.size+1,2,none⟩) _ hlt).setCell (p:=⟨w.heap.size+1,3,none⟩) _ hlt).setCell (p:=⟨w.heap.size+1,4,none⟩) _ hlt).setCell (p:=⟨w.heap.size+1,5,none⟩) _ hlt).mono (by omega))
 ·have hle:w.heap.size≤w.heap.size+1:=Nat.le_succ _
  exact((((((((HB0.out.trans (hb.mono h02)).trans (hb3.mono (by omega))).setCell (p:=⟨w.heap.size+1,0,none⟩) hle _).setCell (p:=⟨w.heap.size+1,1,none⟩) hle _).setCell (p:=⟨w.heap.size+1,2,none⟩) hle _).setCell (p:=⟨w.heap.size+1,3,none⟩) hle _).setCell (p:=⟨w.heap.size+1,4,none⟩) hle _).setCell (p:=⟨w.heap.size+1,5,none⟩) hle _)
end Go.Proofs.YtkplnbjgkhmbcaaGreatDoor
namespace Go.Proofs.YtkplnbjgkhmbcaaGreatDoor
open Go.RowKit Go.Shelf Go.Proofs.YtkplnbjgkhmbcaaGreatDoorW.PrintWords Go.Proofs.YtkplnbjgkhmbcaaGreatDoorW.PrintLast Go.Proofs.YtkplnbjgkhmbcaaGreatDoorW.PrintMore Go.Proofs.YtkplnbjgkhmbcaaGreatDoor.PFnCompare Go.Proofs.YtkplnbjgkhmbcaaGreatDoor.PCmp Go.Proofs.YtkplnbjgkhmbcaaGreatDoor.PbytesOf
set_option linter.unusedVariables false
set_option linter.unusedSimpArgs false
theorem taNoneTypeNoneType (v:Value) (w:World):(Instr.typeAssert (.iface 137 v) 57 137 true).run Tryz.prog w= .ok (.tuple #[v, .bool true]) w:=by kernel_rfl
theorem taBoolNoneType (v:Value) (w:World):(Instr.typeAssert (.iface 138 v) 57 137 true).run Tryz.prog w= .ok (.tuple #[.int .u8 0, .bool false]) w:=by kernel_rfl
theorem taBoolBool (v:Value) (w:World):(Instr.typeAssert (.iface 138 v) 57 138 true).run Tryz.prog w= .ok (.tuple #[v, .bool true]) w:=by kernel_rfl
theorem taIntNoneType (v:Value) (w:World):(Instr.typeAssert (.iface 122 v) 57 137 true).run Tryz.prog w= .ok (.tuple #[.int .u8 0, .bool false]) w:=by kernel_rfl
theorem taIntBool (v:Value) (w:World):(Instr.typeAssert (.iface 122 v) 57 138 true).run Tryz.prog w= .ok (.tuple #[.bool false, .bool false]) w:=by kernel_rfl
theorem taIntInt (v:Value) (w:World):(Instr.typeAssert (.iface 122 v) 57 122 true).run Tryz.prog w= .ok (.tuple #[v, .bool true]) w:=by kernel_rfl
theorem taFloatNoneType (v:Value) (w:World):(Instr.typeAssert (.iface 123 v) 57 137 true).run Tryz.prog w= .ok (.tuple #[.int .u8 0, .bool false]) w:=by kernel_rfl
theorem taFloatBool (v:Value) (w:World):(Instr.typeAssert (.iface 123 v) 57 138 true).run Tryz.prog w= .ok (.tuple #[.bool false, .bool false]) w:=by kernel_rfl
theorem taFloatInt (v:Value) (w:World):(Instr.typeAssert (.iface 123 v) 57 122 true).run Tryz.prog w= .ok (.tuple #[.agg #[.int .i64 0, .pointer none], .bool false]) w:=by kernel_rfl
theorem taFloatFloat (v:Value) (w:World):(Instr.typeAssert (.iface 123 v) 57 123 true).run Tryz.prog w= .ok (.tuple #[v, .bool true]) w:=by kernel_rfl
theorem taStringNoneType (v:Value) (w:World):(Instr.typeAssert (.iface 141 v) 57 137 true).run Tryz.prog w= .ok (.tuple #[.int .u8 0, .bool false]) w:=by kernel_rfl
theorem taStringBool (v:Value) (w:World):(Instr.typeAssert (.iface 141 v) 57 138 true).run Tryz.prog w= .ok (.tuple #[.bool false, .bool false]) w:=by kernel_rfl
theorem taStringInt (v:Value) (w:World):(Instr.typeAssert (.iface 141 v) 57 122 true).run Tryz.prog w= .ok (.tuple #[.agg #[.int .i64 0, .pointer none], .bool false]) w:=by kernel_rfl
theorem taStringFloat (v:Value) (w:World):(Instr.typeAssert (.iface 141 v) 57 123 true).run Tryz.prog w= .ok (.tuple #[.float .f64 0, .bool false]) w:=by kernel_rfl
theorem taStringString (v:Value) (w:World):(Instr.typeAssert (.iface 141 v) 57 141 true).run Tryz.prog w= .ok (.tuple #[v, .bool true]) w:=by kernel_rfl
theorem taBytesNoneType (v:Value) (w:World):(Instr.typeAssert (.iface 142 v) 57 137 true).run Tryz.prog w= .ok (.tuple #[.int .u8 0, .bool false]) w:=by kernel_rfl
theorem taBytesBool (v:Value) (w:World):(Instr.typeAssert (.iface 142 v) 57 138 true).run Tryz.prog w= .ok (.tuple #[.bool false, .bool false]) w:=by kernel_rfl
theorem taBytesInt (v:Value) (w:World):(Instr.typeAssert (.iface 142 v) 57 122 true).run Tryz.prog w= .ok (.tuple #[.agg #[.int .i64 0, .pointer none], .bool false]) w:=by kernel_rfl
theorem taBytesFloat (v:Value) (w:World):(Instr.typeAssert (.iface 142 v) 57 123 true).run Tryz.prog w= .ok (.tuple #[.float .f64 0, .bool false]) w:=by kernel_rfl
theorem taBytesString (v:Value) (w:World):(Instr.typeAssert (.iface 142 v) 57 141 true).run Tryz.prog w= .ok (.tuple #[.string ⟨#[]⟩, .bool false]) w:=by kernel_rfl
theorem taBytesBytes (v:Value) (w:World):(Instr.typeAssert (.iface 142 v) 57 142 true).run Tryz.prog w= .ok (.tuple #[v, .bool true]) w:=by kernel_rfl
def EV (B:Nat) (w:World) (v:Value) (x:VT):Prop:= ∃A c,v= .agg #[.int .i64 x.f0, .bool x.f1, .slice A x.f2.length c, .int .u64 x.f3, .string x.f4, .slice none 0 0]∧Sl .u8 B w (.slice A x.f2.length c) x.f2∧x.f5=[]
theorem ev_flat (B:Nat) (w:World) (k b:Int) (t:ByteArray):EV B w (.agg #[.int .i64 k, .bool false, .slice none 0 0, .int .u64 b, .string t, .slice none 0 0]) ⟨k,false,[],b,t,[]⟩:=⟨none,0,rfl,Sl.nil,rfl⟩
def TellR (w:World) (s:Sca) (e:Ending) (w':World):Prop:= ∃u x,e= .returned u∧EV w.heap.size w' u x∧Canon s x∧Below w.heap.size w w'
end Go.Proofs.YtkplnbjgkhmbcaaGreatDoor
namespace Go.Proofs.YtkplnbjgkhmbcaaGreatDoor
open Go.RowKit Go.Shelf Go.Proofs.YtkplnbjgkhmbcaaGreatDoorW.PrintWords Go.Proofs.YtkplnbjgkhmbcaaGreatDoorW.PrintLast Go.Proofs.YtkplnbjgkhmbcaaGreatDoorW.PrintMore Go.Proofs.YtkplnbjgkhmbcaaGreatDoor.PFnCompare Go.Proofs.YtkplnbjgkhmbcaaGreatDoor.PCmp Go.Proofs.YtkplnbjgkhmbcaaGreatDoor.PbytesOf
set_option linter.unusedVariables false
set_option linter.unusedSimpArgs false
set_option maxRecDepth 100000 in
theorem specNil_c (A B:Option Addr) (c d:Nat) (w:World):Calls Tryz.prog 45 #[.slice A 0 c, .slice B 0 d] w fun e w'=>e= .returned (.bool true)∧w'=w:=by
 go_enter Tryz.func45,Tryz.ntmps45
 go_wp2_with fail
 go_loopw [5] (fun i wr=>i= .int .i64 0∧wr=w) (fun _ _=>0)
 case atStart=>exact⟨rfl,rfl⟩
 case round=>
  obtain⟨rfl,rfl⟩:=hrel
  go_wp2
  go_ret
  exact⟨rfl,rfl⟩
set_option maxRecDepth 100000 in
set_option maxHeartbeats 4000000 in
theorem specSameInt_c (n:Bool) (l m:List Int) (b b':Int) (t:ByteArray) (v1 v2:Value) (w:World) (h1:VR w v1 ⟨2,n,l,b,t,[]⟩) (h2:VR w v2 ⟨2,n,m,b',t,[]⟩) (g1:Good n l) (g2:Good n m) (hl:m.length=l.length) (hv:val n l=val n m):Calls Tryz.prog 18 #[v1,v2] w fun e w'=>e= .returned (.bool true)∧Below w.heap.size w w':=by
 have H1:=Lib.hid h1
 have H2:=Lib.hid h2
 obtain⟨A2,c2,A5,c5,rfl,_⟩:=h1.open
 obtain⟨B2,d2,B5,d5,rfl,_⟩:=h2.open
 clear h1 h2
 have HN1:Hid (∀W,Below w.heap.size w W→Calls Tryz.prog 41 #[.agg #[.int .i64 2, .bool n, .slice A2 l.length c2, .int .u64 b, .string t, .slice A5 0 c5]] W fun e W'=> ∃A c,e= .returned (.agg #[.bool n, .slice A l.length c])∧Sl .u8 W.heap.size W' (.slice A l.length c) l∧Below W.heap.size W W'):=Lib.hid fun W hW=>num_c _ ⟨2,n,l,b,t,[]⟩ W (H1.out.below hW) g1
 have HN2:Hid (∀W,Below w.heap.size w W→Calls Tryz.prog 41 #[.agg #[.int .i64 2, .bool n, .slice B2 m.length d2, .int .u64 b', .string t, .slice B5 0 d5]] W fun e W'=> ∃A c,e= .returned (.agg #[.bool n, .slice A m.length c])∧Sl .u8 W.heap.size W' (.slice A m.length c) m∧Below W.heap.size W W'):=Lib.hid fun W hW=>num_c _ ⟨2,n,m,b',t,[]⟩ W (H2.out.below hW) g2
 have HC:Hid (∀W P p Q q,Sl .u8 0 W (.slice P l.length p) l→Sl .u8 0 W (.slice Q m.length q) m→Calls Tryz.prog 42 #[.agg #[.bool n, .slice P l.length p], .agg #[.bool n, .slice Q m.length q]] W fun e W'=>e= .returned (.int .i64 0)∧Below W.heap.size W W'):=Lib.hid fun W P p Q q k1 k2=>by
  have:=cmp_c 0 0 _ _ n n l m W ⟨_,rfl,k1⟩ ⟨_,rfl,k2⟩ g1 g2
  rw[hv,Int.sub_self] at this
  exact this
 rw[hl] at HN2 HC
 have HB:Hid (Below w.heap.size w ((w.alloc (.cells #[.int .i64 2, .bool n, .slice A2 l.length c2, .int .u64 b, .string t, .slice A5 0 c5] 26)).alloc (.cells #[.int .i64 2, .bool n, .slice B2 l.length d2, .int .u64 b', .string t, .slice B5 0 d5] 26))):=Lib.hid (((Below.refl _ w).alloc (Nat.le_refl _) _).alloc (by simp) _)
 have HK:Hid (∀W,Below (w.heap.size+2) ((w.alloc (.cells #[.int .i64 2, .bool n, .slice A2 l.length c2, .int .u64 b, .string t, .slice A5 0 c5] 26)).alloc (.cells #[.int .i64 2, .bool n, .slice B2 l.length d2, .int .u64 b', .string t, .slice B5 0 d5] 26)) W→W.heap[w.heap.size]?=some (.cells #[.int .i64 2, .bool n, .slice A2 l.length c2, .int .u64 b, .string t, .slice A5 0 c5] 26 (0,0))∧W.heap[w.heap.size+1]?=some (.cells #[.int .i64 2, .bool n, .slice B2 l.length d2, .int .u64 b', .string t, .slice B5 0 d5] 26 (0,0))):=Lib.hid fun W hW=>⟨(hW.block _ (by omega)).trans (blk_alloc (blk_new _ _) _),(hW.block _ (by omega)).trans (by simpa using blk_new (w.alloc (.cells #[.int .i64 2, .bool n, .slice A2 l.length c2, .int .u64 b, .string t, .slice A5 0 c5] 26)) _)⟩
 have HS:Hid (((w.alloc (.cells #[.int .i64 2, .bool n, .slice A2 l.length c2, .int .u64 b, .string t, .slice A5 0 c5] 26)).alloc (.cells #[.int .i64 2, .bool n, .slice B2 l.length d2, .int .u64 b', .string t, .slice B5 0 d5] 26)).heap.size=w.heap.size+2):=Lib.hid (by simp)
 obtain⟨W,hW⟩: ∃W,W=(w.alloc (.cells #[.int .i64 2, .bool n, .slice A2 l.length c2, .int .u64 b, .string t, .slice A5 0 c5] 26)).alloc (.cells #[.int .i64 2, .bool n, .slice B2 l.length d2, .int .u64 b', .string t, .slice B5 0 d5] 26):=⟨_,rfl⟩
 rw[←hW] at HB HK HS
 have HBW:=Lib.hid (Below.refl (w.heap.size+2) W)
 clear g1 g2 hv
 go_enter Tryz.func18,Tryz.ntmps18
 go_upto_region 5 with fail
 rw[←hW]
 clear hW
 have z1:=cells6 (HK.out _ HBW.out).1
 have z2:=cells6 (HK.out _ HBW.out).2
 have hq:(l.length:Int)==(l.length:Int):=by simp
 go_region_held3 (fun W=>(W.cell? ⟨w.heap.size,0,none⟩=some (.int .i64 2)∧W.cell? ⟨w.heap.size,1,none⟩=some (.bool n)∧W.cell? ⟨w.heap.size,2,none⟩=some (.slice A2 l.length c2)∧W.cell? ⟨w.heap.size,3,none⟩=some (.int .u64 b)∧W.cell? ⟨w.heap.size,4,none⟩=some (.string t)∧W.cell? ⟨w.heap.size,5,none⟩=some (.slice A5 0 c5))∧(W.cell? ⟨w.heap.size+1,0,none⟩=some (.int .i64 2)∧W.cell? ⟨w.heap.size+1,1,none⟩=some (.bool n)∧W.cell? ⟨w.heap.size+1,2,none⟩=some (.slice B2 l.length d2)∧W.cell? ⟨w.heap.size+1,3,none⟩=some (.int .u64 b')∧W.cell? ⟨w.heap.size+1,4,none⟩=some (.string t)∧W.cell? ⟨w.heap.size+1,5,none⟩=some (.slice B5 0 d5))) (first|(with_reducible exact⟨r1,r2⟩)|(with_reducible exact⟨q1,q2⟩)|(with_reducible exact⟨y1,y2⟩)|(with_reducible exact⟨z1,z2⟩)|exact⟨z1,z2⟩) (first
  |(go_at_call 41;(with_reducible refine(HN1.out _ (by first|(with_reducible exact HB.out)|(with_reducible exact HB.out.drew))).mono ?_);rintro e w1 ⟨P1,p1,rfl,hs1,hb1⟩;have HS1:=Lib.hid (hs1.mono (Nat.zero_le _));have HB1:Hid (Below w.heap.size w w1∧Below (w.heap.size+2) W w1):=Lib.hid ⟨HB.out.drew.trans (hb1.mono HB.out.size),HBW.out.drew.trans (hb1.mono (by rw[←HS.out];exact HBW.out.size))⟩;have y1:=cells6 (HK.out _ HB1.out.2).1;have y2:=cells6 (HK.out _ HB1.out.2).2;clear hs1 hb1)
  |(go_at_call 41;(with_reducible refine(HN2.out _ HB1.out.1).mono ?_);rintro e w2 ⟨P2,p2,rfl,hs2,hb2⟩;have HS2:=Lib.hid (hs2.mono (Nat.zero_le _));have HS3:Hid (Sl .u8 0 w2 (.slice P1 l.length p1) l):=Lib.hid (HS1.out.below hb2);have HB2:Hid (Below w.heap.size w w2∧Below (w.heap.size+2) W w2):=Lib.hid ⟨HB1.out.1.trans (hb2.mono HB1.out.1.size),HB1.out.2.trans (hb2.mono (by rw[←HS.out];exact HB1.out.2.size))⟩;have q1:=cells6 (HK.out _ HB2.out.2).1;have q2:=cells6 (HK.out _ HB2.out.2).2;clear hs2 hb2)
  |(go_at_call 42;(with_reducible refine(HC.out _ _ _ _ _ HS3.out HS2.out).mono ?_);rintro e w3 ⟨rfl,hb3⟩;have HB3:Hid (Below w.heap.size w w3∧Below (w.heap.size+2) W w3):=Lib.hid ⟨HB2.out.1.trans (hb3.mono HB2.out.1.size),HB2.out.2.trans (hb3.mono (by rw[←HS.out];exact HB2.out.2.size))⟩;have r1:=cells6 (HK.out _ HB3.out.2).1;have r2:=cells6 (HK.out _ HB3.out.2).2;clear hb3))
 all_goals go_wp2
 all_goals go_ret
 all_goals exact⟨rfl,HB3.out.1⟩
set_option maxRecDepth 100000 in
theorem specSame_c (x y:VT) (v1 v2:Value) (w:World) (h1:VR w v1 x) (h2:VR w v2 y) (ha:Alike x y):Calls Tryz.prog 18 #[v1,v2] w fun e w'=>e= .returned (.bool true)∧Below w.heap.size w w':=by
 obtain⟨e0,ekx,eky,e4,eb,ei⟩:=ha
 obtain⟨a0,a1,a2,a3,a4,a5⟩:=x
 obtain⟨b0,b1,b2,b3,b4,b5⟩:=y
 dsimp only at e0 ekx eky e4 eb ei
 subst e0 ekx eky e4
 by_cases k2:a0=2
 ·subst k2
  obtain⟨g1,g2,rfl,hl,hv⟩:=ei rfl
  exact specSameInt_c _ _ _ _ _ _ _ _ _ h1 h2 g1 g2 hl.symm hv
 ·obtain⟨A2,c2,A5,c5,rfl,_⟩:=h1.open
  obtain⟨B2,d2,B5,d5,rfl,_⟩:=h2.open
  clear h1 h2 ei
  have ex:(a0==2)=false:=by simp[k2]
  by_cases k3:a0=3
  ·have ey:(a0==3)=true:=by rw[k3];rfl
   obtain rfl:=eb (Or.inr k3)
   clear k2 k3 eb
   go_enter Tryz.func18,Tryz.ntmps18
   go_wp2
   go_ret
   exact⟨rfl,((Below.refl _ w).alloc (Nat.le_refl _) _).alloc (by simp) _⟩
  ·have ey:(a0==3)=false:=by simp[k3]
   by_cases k1:a0=1
   ·have ez:(a0==1)=true:=by rw[k1];rfl
    obtain rfl:=eb (Or.inl k1)
    clear k1 k2 k3 eb
    go_enter Tryz.func18,Tryz.ntmps18
    go_wp2
    go_ret
    exact⟨rfl,((Below.refl _ w).alloc (Nat.le_refl _) _).alloc (by simp) _⟩
   ·have ez:(a0==1)=false:=by simp[k1]
    clear k1 k2 k3 eb
    go_enter Tryz.func18,Tryz.ntmps18
    go_wp2_with (go_at_call 45;(with_reducible refine(specNil_c _ _ _ _ _).mono ?_);rintro e w1 ⟨rfl,hw1⟩;have hw2:=hw1.symm;clear hw1;subst hw2)
    go_ret
    exact⟨rfl,((Below.refl _ w).alloc (Nat.le_refl _) _).alloc (by simp) _⟩
end Go.Proofs.YtkplnbjgkhmbcaaGreatDoor
namespace Go.Proofs.YtkplnbjgkhmbcaaGreatDoor
open Go.RowKit Go.Shelf Go.Proofs.YtkplnbjgkhmbcaaGreatDoorW.PrintWords Go.Proofs.YtkplnbjgkhmbcaaGreatDoorW.PrintLast Go.Proofs.YtkplnbjgkhmbcaaGreatDoorW.PrintMore Go.Proofs.YtkplnbjgkhmbcaaGreatDoor.PFnCompare Go.Proofs.YtkplnbjgkhmbcaaGreatDoor.PCmp Go.Proofs.YtkplnbjgkhmbcaaGreatDoor.PbytesOf
set_option linter.unusedVariables false
set_option linter.unusedSimpArgs false
theorem ownRow_reads {u W:World} {B:Nat} {v:Value} {ps:List VT} (h:OwnRow (kV.K u) 26 6 W B v ps) (hb:Below u.heap.size u W): ∃A c,v= .slice A ps.length c∧ps.length≤c∧kV.C W A ps.length ps:=by
 obtain⟨A,c,rfl,hl,hr⟩:=OwnRow.reads h
 exact⟨A,c,rfl,hl,ReadsRow.imp_ hr (Below.refl _ _) (fun _ _ h=>kV.K_below hb h)⟩
theorem ownRow_far {u W:World} {B:Nat} {v:Value} {ps:List VT} (h:OwnRow (kV.K u) 26 6 W B v ps) {p:Addr} (hp:p.block<B) (x:Value):OwnRow (kV.K u) 26 6 (W.setCell p x) B v ps:=by
 obtain⟨inner,ho,hr⟩:=h
 exact⟨inner,own_move ho (fun k hk=>Below.heap_setCell W p x k (by have:=own_base ho k hk;omega)),hr⟩
theorem step_append_ex {P:Program} {w:World} {ops:Array Oper} {o:Oper} {a:Act} {K:Act→World→Prop} {Q:Exit→Act→World→Prop} {E:Prop} {R:Value→World→Prop} (hg:o.guard=none) (s x:Operand) (t:TypeId) (hop:o.op=Op.call {callee:=Callee.builtin Builtin.append,args:=#[s,x],argTypes:=#[t,t]})
 (v1 v2:Value) (hs:a.eval s=v1) (hx:a.eval x=v2) (hrun: ∃v3 w',(Builtin.append_ #[t,t] o.type #[v1,v2]).run P w= .ok v3 w'∧R v3 w') (hK: ∀v3 w',R v3 w'→K (a.put o.dst v3) w'):if Region.wanted o (yielded ops a.tmps)=true then Oper.wp P o a w K Q else E:=by
 have hw:Region.wanted o (yielded ops a.tmps)=true:=by simp[Region.wanted,hg]
 rw[if_pos hw]
 obtain⟨v3,w',hrun,hr⟩:=hrun
 unfold Oper.wp
 simp[execOp,hop,resolve,invoke,builtin,hs,hx,hrun,Result.andThen]
 exact hK _ _ hr
end Go.Proofs.YtkplnbjgkhmbcaaGreatDoor
namespace Go.Proofs.YtkplnbjgkhmbcaaGreatDoor
open Go.RowKit Go.Shelf Go.Proofs.YtkplnbjgkhmbcaaGreatDoorW.PrintWords Go.Proofs.YtkplnbjgkhmbcaaGreatDoorW.PrintLast Go.Proofs.YtkplnbjgkhmbcaaGreatDoorW.PrintMore Go.Proofs.YtkplnbjgkhmbcaaGreatDoor.PFnCompare Go.Proofs.YtkplnbjgkhmbcaaGreatDoor.PCmp Go.Proofs.YtkplnbjgkhmbcaaGreatDoor.PbytesOf
set_option linter.unusedVariables false
set_option linter.unusedSimpArgs false
structure LB (w0:World) (cs:Array Value) (w:World):Prop where
 b0:w.heap[w0.heap.size]?=some (.cells cs 26 (0,0))
 b1:w.heap[w0.heap.size+1]?=some (.cells #[.int .i64 0, .bool false, .slice none 0 0, .int .u64 0, .string ⟨#[]⟩, .slice none 0 0] 26 (0,0))
 b2:w.heap[w0.heap.size+2]?=some (.cells #[.int .i64 0, .bool false, .slice none 0 0, .int .u64 0, .string ⟨#[]⟩, .slice none 0 0] 26 (0,0))
 low:Below w0.heap.size w0 w
end Go.Proofs.YtkplnbjgkhmbcaaGreatDoor
namespace Go.Proofs.YtkplnbjgkhmbcaaGreatDoor
open Go.RowKit Go.Shelf Go.Proofs.YtkplnbjgkhmbcaaGreatDoorW.PrintWords Go.Proofs.YtkplnbjgkhmbcaaGreatDoorW.PrintLast Go.Proofs.YtkplnbjgkhmbcaaGreatDoorW.PrintMore Go.Proofs.YtkplnbjgkhmbcaaGreatDoor.PFnCompare Go.Proofs.YtkplnbjgkhmbcaaGreatDoor.PCmp Go.Proofs.YtkplnbjgkhmbcaaGreatDoor.PbytesOf
set_option linter.unusedVariables false
set_option linter.unusedSimpArgs false
structure Kept (w:World) (y:VT) (P2 P5:Option Addr) (p2 p5:Nat) (W:World):Prop where
 val:VR W (.agg (six5 y P2 p2 P5 y.f5.length p5)) y
 blk:W.heap[w.heap.size]?=some (.cells (six5 y P2 p2 P5 y.f5.length p5) 26 (0,0))
 low:Below w.heap.size w W
end Go.Proofs.YtkplnbjgkhmbcaaGreatDoor
namespace Go.Proofs.YtkplnbjgkhmbcaaGreatDoor
open Go.RowKit Go.Shelf Go.Proofs.YtkplnbjgkhmbcaaGreatDoorW.PrintWords Go.Proofs.YtkplnbjgkhmbcaaGreatDoorW.PrintLast Go.Proofs.YtkplnbjgkhmbcaaGreatDoorW.PrintMore Go.Proofs.YtkplnbjgkhmbcaaGreatDoor.PFnCompare Go.Proofs.YtkplnbjgkhmbcaaGreatDoor.PCmp Go.Proofs.YtkplnbjgkhmbcaaGreatDoor.PbytesOf
set_option linter.unusedVariables false
set_option linter.unusedSimpArgs false
theorem keptA {w:World} {B:Nat} {y:VT} {P2 P5:Option Addr} {p2 p5:Nat} (hM:kV.M w B (fun _=>True) y [.int .i64 y.f0, .bool y.f1, .slice P2 y.f2.length p2, .int .u64 y.f3, .string y.f4, .slice P5 y.f5.length p5]):Kept w y P2 P5 p2 p5 (w.alloc (.cells (six5 y P2 p2 P5 y.f5.length p5) 26)):=
 ⟨⟨_,rfl,kV.K_of_M (Kd.M_below hM ((Below.refl _ w).alloc (Nat.le_refl _) _))⟩,blk_new _ _,(Below.refl _ w).alloc (Nat.le_refl _) _⟩
end Go.Proofs.YtkplnbjgkhmbcaaGreatDoor
namespace Go.Proofs.YtkplnbjgkhmbcaaGreatDoor
open Go.RowKit Go.Shelf Go.Proofs.YtkplnbjgkhmbcaaGreatDoorW.PrintWords Go.Proofs.YtkplnbjgkhmbcaaGreatDoorW.PrintLast Go.Proofs.YtkplnbjgkhmbcaaGreatDoorW.PrintMore Go.Proofs.YtkplnbjgkhmbcaaGreatDoor.PFnCompare Go.Proofs.YtkplnbjgkhmbcaaGreatDoor.PCmp Go.Proofs.YtkplnbjgkhmbcaaGreatDoor.PbytesOf
set_option linter.unusedVariables false
set_option linter.unusedSimpArgs false
theorem heap_far (w:World) (p:Addr) (v:Value) (j:Nat) (h:j≠p.block):(w.setCell p v).heap[j]?=w.heap[j]?:=by
 simp only[World.setCell,Array.getElem?_modify]
 rw[if_neg (by omega)]
theorem htArr_it (g:Nat) (tab:Bool) (es:List HEnt) (a b:Int):(htArr g tab es a).setIfInBounds 43 (.int .u32 b)=htArr g tab es b:=by
 have hs: ∀c,(htArr g tab es c).size=47:=fun c=>by simp[htArr]
 refine Array.ext_getElem? fun i=>?_
 rw[Array.getElem?_setIfInBounds,hs]
 by_cases h:43=i
 ·subst h
  rw[if_pos rfl,if_pos (by decide),htArr_at _ _ _ _ _ (by decide)]
  rfl
 ·rw[if_neg h]
  by_cases hi:i<47
  ·rw[htArr_at _ _ _ _ _ hi,htArr_at _ _ _ _ _ hi]
   unfold htCell
   rw[if_neg (show¬i=43 by omega),if_neg (show¬i=43 by omega)]
  ·rw[Array.getElem?_eq_none (by rw[hs];omega),Array.getElem?_eq_none (by rw[hs];omega)]
section
variable {w:World} {g:Nat} {T:TypeId} {tab:Bool} {es:List HEnt} {a:Int}
theorem HTab.setIt (h:HTab w g T tab es a) (b:Int):HTab (w.setCell ⟨g,43,none⟩ (.int .u32 b)) g T tab es b:=blk_put h _ _ (htArr_it g tab es a b)
theorem Below.itBack {W:World} (ht:HTab w g T tab es 0) (hlt:g<w.heap.size) (h:Below w.heap.size (w.setCell ⟨g,43,none⟩ (.int .u32 1)) W):Below w.heap.size w (W.setCell ⟨g,43,none⟩ (.int .u32 0)):=by
 refine⟨h.os,h.tape,h.output,?_,fun k hk=>?_⟩
 ·have:=h.size
  simpa [World.setCell] using this
 ·by_cases e:k=g
  ·subst e
   have h1:HTab W k T tab es 1:=(h.block k hk).trans (ht.setIt 1)
   exact(h1.setIt 0).trans ht.symm
  ·rw[heap_far W ⟨g,43,none⟩ _ k e,h.block k hk,heap_far w ⟨g,43,none⟩ _ k e]
end
end Go.Proofs.YtkplnbjgkhmbcaaGreatDoor
namespace Go.Proofs.YtkplnbjgkhmbcaaGreatDoor
open Go.RowKit Go.Shelf Go.Proofs.YtkplnbjgkhmbcaaGreatDoorW.PrintWords Go.Proofs.YtkplnbjgkhmbcaaGreatDoorW.PrintLast Go.Proofs.YtkplnbjgkhmbcaaGreatDoorW.PrintMore Go.Proofs.YtkplnbjgkhmbcaaGreatDoor.PFnCompare Go.Proofs.YtkplnbjgkhmbcaaGreatDoor.PCmp Go.Proofs.YtkplnbjgkhmbcaaGreatDoor.PbytesOf
set_option linter.unusedVariables false
set_option linter.unusedSimpArgs false
def ItB (w:World) (K g n j:Nat):Prop:=w.heap[K]?=some (.cells #[.pointer (some ⟨g,0,none⟩),entP g n j] 280 (0,0))
theorem methNext (v:Value) (w:World):(method 560 218 v "Next").run Tryz.prog w= .ok (388,v) w:=by kernel_rfl
theorem methDone (v:Value) (w:World):(method 560 218 v "Done").run Tryz.prog w= .ok (387,v) w:=by kernel_rfl
structure NextR (w:World) (K X g n j:Nat) (key:Value) (w':World):Prop where
 it:ItB w' K g n (j+1)
 xb:w'.heap[X]?=some (.cells #[key] 57 (0,0))
 far: ∀k,k≠K→k≠X→w'.heap[k]?=w.heap[k]?
 size:w'.heap.size=w.heap.size
 low: ∀w0:World,w0.heap.size≤K→w0.heap.size≤X→Below w0.heap.size w0 w→Below w0.heap.size w0 w'
theorem nextR_of {w:World} {K X g n j:Nat} {u key:Value} (hne:X≠K) (hI:ItB w K g n j) (hx:w.heap[X]?=some (.cells #[u] 57 (0,0))):NextR w K X g n j key ((w.setCell ⟨X,0,none⟩ key).setCell ⟨K,1,none⟩ (entP g n (j+1))):=by
 refine⟨?_,?_,fun k h1 h2=>?_,by simp[World.setCell],fun w0 h1 h2 hb=>(hb.setCell (p:=⟨X,0,none⟩) h2 _).setCell (p:=⟨K,1,none⟩) h1 _⟩
 ·exact blk_put (((heap_far w ⟨X,0,none⟩ key K (fun e=>hne e.symm)).trans hI)) 1 _ rfl
 ·exact(heap_far _ ⟨K,1,none⟩ _ X hne).trans (blk_put hx 0 _ rfl)
 ·rw[heap_far _ ⟨K,1,none⟩ _ k h1,heap_far w ⟨X,0,none⟩ _ k h2]
set_option maxRecDepth 100000 in
theorem next_c (K X g:Nat) (T:TypeId) (tab:Bool) (es:List HEnt) (it:Int) (j:Nat) (u:Value) (w:World) (hI:ItB w K g es.length j) (ht:HTab w g T tab es it) (hn:es.length≤8) (hj:j<es.length) (hx:w.heap[X]?=some (.cells #[u] 57 (0,0))) (hXK:X≠K) (hXg:X≠g) (hk: ∃T x,es[j].k= .iface T x):
 Calls Tryz.prog 388 #[.pointer (some ⟨K,0,none⟩), .pointer (some ⟨X,0,none⟩)] w fun e w'=>e= .returned (.bool true)∧NextR w K X g es.length j es[j].k w':=by
 have HR:=Lib.hid (nextR_of (key:=es[j].k) hXK hI hx)
 have hlen:=lt_blk hI
 obtain⟨W1,hW1⟩: ∃W,W=w.setCell ⟨X,0,none⟩ es[j].k:=⟨_,rfl⟩
 have hI1:ItB W1 K g es.length j:=by rw[hW1];exact(heap_far w ⟨X,0,none⟩ _ K (fun e=>hXK e.symm)).trans hI
 have ht1:HTab W1 g T tab es it:=by rw[hW1];exact(heap_far w ⟨X,0,none⟩ _ g (fun e=>hXg e.symm)).trans ht
 rw[←hW1] at HR
 unfold ItB at hI hI1
 rw[entP_some hj] at hI hI1
 have k0:=blk_cell hI 0 _ rfl
 have k1:=blk_cell hI 1 _ rfl
 have q0:=blk_cell hI1 0 _ rfl
 have q1:=blk_cell hI1 1 _ rfl
 have f1:=blk_free hI1 1
 have x0:=blk_cell hx 0 _ rfl
 have fx:=blk_free hx 0
 have e1:=(ht.ent hn j hj).1
 have e3:=(ht1.ent hn j hj).2.2
 obtain⟨TK,kx,hkk⟩:=hk
 obtain⟨ne,hne⟩: ∃v,entP g es.length (j+1)=v:=⟨_,rfl⟩
 have hpt: ∃o,ne= .pointer o:=by
  rw[←hne]
  unfold entP
  split<;>exact⟨_,rfl⟩
 obtain⟨no,rfl⟩:=hpt
 rw[hkk] at e1 hW1
 rw[hne] at e3 HR
 rw[hkk] at HR
 rw[hkk]
 clear hI hI1 ht ht1 hx hkk hne hn
 go_enter Tryz.func388,Tryz.ntmps388
 go_upto_region 3 with fail
 rw[←hW1]
 clear hW1
 go_wp2
 go_ret
 exact⟨rfl,HR.out⟩
theorem nextEnd_c (K X g n:Nat) (w:World) (hI:ItB w K g n n):Calls Tryz.prog 388 #[.pointer (some ⟨K,0,none⟩), .pointer (some ⟨X,0,none⟩)] w fun e w'=>e= .returned (.bool false)∧w'=w:=by
 unfold ItB at hI
 rw[entP_none] at hI
 have k1:=blk_cell hI 1 _ rfl
 clear hI
 go_enter Tryz.func388,Tryz.ntmps388
 go_wp2
 go_ret
 exact⟨rfl,rfl⟩
structure MidR (w0:World) (K X g n j:Nat) (wr:World):Prop where
 low:Below w0.heap.size w0 wr
 it:ItB wr K g n j
 xb: ∃u,wr.heap[X]?=some (.cells #[u] 57 (0,0))
end Go.Proofs.YtkplnbjgkhmbcaaGreatDoor
namespace Go.Proofs.YtkplnbjgkhmbcaaGreatDoor
open Go.RowKit Go.Shelf Go.Proofs.YtkplnbjgkhmbcaaGreatDoorW.PrintWords Go.Proofs.YtkplnbjgkhmbcaaGreatDoorW.PrintLast Go.Proofs.YtkplnbjgkhmbcaaGreatDoorW.PrintMore Go.Proofs.YtkplnbjgkhmbcaaGreatDoor.PFnCompare Go.Proofs.YtkplnbjgkhmbcaaGreatDoor.PCmp Go.Proofs.YtkplnbjgkhmbcaaGreatDoor.PbytesOf
set_option linter.unusedVariables false
set_option linter.unusedSimpArgs false
set_option maxRecDepth 100000 in
theorem iterate_c (g:Nat) (T:TypeId) (tab:Bool) (es:List HEnt) (w:World) (h:HTab w g T tab es 0):Calls Tryz.prog 112 #[.pointer (some ⟨g,0,none⟩)] w fun e w'=>e= .returned (.pointer (some ⟨w.heap.size,0,none⟩))∧w'=(w.setCell ⟨g,43,none⟩ (.int .u32 1)).alloc (.cells #[.pointer (some ⟨g,0,none⟩),entP g es.length 0] 280):=by
 have c43:=h.c43
 have c46:=h.c46
 have f43:=h.free 43
 obtain⟨W1,hW1⟩: ∃W,W=w.setCell ⟨g,43,none⟩ (.int .u32 1):=⟨_,rfl⟩
 have h1:HTab W1 g T tab es 1:=by rw[hW1];exact h.setIt 1
 have c44:=h1.head
 have hz:Hid (W1.heap.size=w.heap.size):=Lib.hid (by rw[hW1];simp[World.setCell])
 obtain⟨ne,hne⟩: ∃v,entP g es.length 0=v:=⟨_,rfl⟩
 have hpt: ∃o,ne= .pointer o:=by
  rw[←hne]
  unfold entP
  split<;>exact⟨_,rfl⟩
 obtain⟨no,rfl⟩:=hpt
 rw[hne] at c44⊢
 rw[←hW1]
 clear h h1 hne
 go_enter Tryz.func112,Tryz.ntmps112
 go_upto_region 3 with fail
 rw[←hW1]
 clear hW1
 go_wp2
 go_ret
 exact⟨by rw[hz.out];rfl,rfl⟩
set_option maxRecDepth 100000 in
theorem setIterate_c (g:Nat) (tab:Bool) (es:List HEnt) (w:World) (h:HTab w g 185 tab es 0):Calls Tryz.prog 75 #[.pointer (some ⟨g,0,none⟩)] w fun e w'=>e= .returned (.iface 218 (.pointer (some ⟨w.heap.size,0,none⟩)))∧w'=(w.setCell ⟨g,43,none⟩ (.int .u32 1)).alloc (.cells #[.pointer (some ⟨g,0,none⟩),entP g es.length 0] 280):=by
 have HI:=Lib.hid (iterate_c g _ tab es w h)
 clear h
 go_enter Tryz.func75,Tryz.ntmps75
 go_wp2_with (go_at_call 112;(with_reducible refine HI.out.mono ?_);rintro e w1 ⟨rfl,hw1⟩;have HW:=Lib.hid hw1;clear hw1)
 go_ret
 exact⟨rfl,HW.out⟩
def itW (w:World) (g n:Nat):World:=(w.setCell ⟨g,43,none⟩ (.int .u32 1)).alloc (.cells #[.pointer (some ⟨g,0,none⟩),entP g n 0] 280)
end Go.Proofs.YtkplnbjgkhmbcaaGreatDoor
namespace Go.Proofs.YtkplnbjgkhmbcaaGreatDoor
open Go.RowKit Go.Shelf Go.Proofs.YtkplnbjgkhmbcaaGreatDoorW.PrintWords Go.Proofs.YtkplnbjgkhmbcaaGreatDoorW.PrintLast Go.Proofs.YtkplnbjgkhmbcaaGreatDoorW.PrintMore Go.Proofs.YtkplnbjgkhmbcaaGreatDoor.PFnCompare Go.Proofs.YtkplnbjgkhmbcaaGreatDoor.PCmp Go.Proofs.YtkplnbjgkhmbcaaGreatDoor.PbytesOf
set_option linter.unusedVariables false
set_option linter.unusedSimpArgs false
structure Rec where
 x:VT
 P2:Option Addr
 p2:Nat
 P5:Option Addr
 p5:Nat
section
variable {w W:World} {X1 X2:Array Value} {s9 s10:Option Nat} {r1 r2:Option Rec}
end
end Go.Proofs.YtkplnbjgkhmbcaaGreatDoor
namespace Go.Proofs.YtkplnbjgkhmbcaaGreatDoor
open Go.RowKit Go.Shelf Go.Proofs.YtkplnbjgkhmbcaaGreatDoorW.PrintWords Go.Proofs.YtkplnbjgkhmbcaaGreatDoorW.PrintLast Go.Proofs.YtkplnbjgkhmbcaaGreatDoorW.PrintMore Go.Proofs.YtkplnbjgkhmbcaaGreatDoor.PFnCompare Go.Proofs.YtkplnbjgkhmbcaaGreatDoor.PCmp Go.Proofs.YtkplnbjgkhmbcaaGreatDoor.PbytesOf
set_option linter.unusedVariables false
set_option linter.unusedSimpArgs false
def lnV (x:VT):Nat:=if x.f0≤5 then x.f4.size else x.f5.length
set_option maxRecDepth 100000 in
theorem specLength_c (x:VT) (A2 A5:Option Addr) (c2 c5:Nat) (w:World) (hk:4≤x.f0∧x.f0≤7):
 Calls Tryz.prog 16 #[.agg (six5 x A2 c2 A5 x.f5.length c5)] w fun e w'=>e= .returned (.int .i64 (lnV x:Int))∧Below w.heap.size w w':=by
 have HB:Hid (Below w.heap.size w (w.alloc (.cells #[.int .i64 x.f0, .bool x.f1, .slice A2 x.f2.length c2, .int .u64 x.f3, .string x.f4, .slice A5 x.f5.length c5] 26))):=Lib.hid ((Below.refl _ w).alloc (Nat.le_refl _) _)
 by_cases h4:x.f0=4
 ·have e:lnV x=x.f4.size:=by unfold lnV;rw[if_pos (by omega)]
  rw[e]
  have ex:(x.f0==4)=true:=by rw[h4];rfl
  go_enter Tryz.func16,Tryz.ntmps16
  go_wp2
  go_ret
  exact⟨rfl,HB.out⟩
 ·have e4:(x.f0==4)=false:=by simp[h4]
  by_cases h5:x.f0=5
  ·have e:lnV x=x.f4.size:=by unfold lnV;rw[if_pos (by omega)]
   rw[e]
   have e5:(x.f0==5)=true:=by rw[h5];rfl
   go_enter Tryz.func16,Tryz.ntmps16
   go_wp2
   go_ret
   exact⟨rfl,HB.out⟩
  ·have e5:(x.f0==5)=false:=by simp[h5]
   have e8:(x.f0==8)=false:=by simp;omega
   have h6:(6:Int)≤x.f0:=by omega
   have e:lnV x=x.f5.length:=by unfold lnV;rw[if_neg (by omega)]
   rw[e]
   go_enter Tryz.func16,Tryz.ntmps16
   go_wp2
   go_ret
   exact⟨rfl,HB.out⟩
theorem turn_plain (n m:Int) (hm:1≤m) (hm2:m≤4294967296):0≤(wrap64 (n.tmod m+m)).tmod m∧(wrap64 (n.tmod m+m)).tmod m<m:=by
 have h1:=Int.tmod_lt_of_pos n (show(0:Int)<m by omega)
 have h2:=Int.lt_tmod_of_pos n (show(0:Int)<m by omega)
 have e1:wrap64 (n.tmod m+m)=n.tmod m+m:=by unfold wrap64;omega
 rw[e1]
 exact⟨Int.tmod_nonneg m (by omega),Int.tmod_lt_of_pos _ (by omega)⟩
set_option maxRecDepth 100000 in
theorem turn_c (n m:Int) (w:World) (hm:1≤m) (hm2:m≤4294967296):Calls Tryz.prog 38 #[.int .i64 n, .int .i64 m] w fun e w'=>(∃r:Int,e= .returned (.int .i64 r)∧0≤r∧r<m)∧w'=w:=by
 have hp:=turn_plain n m hm hm2
 have hne: ¬(m=0):=by omega
 have hne1: ¬(m= -1):=by omega
 go_enter Tryz.func38,Tryz.ntmps38
 go_wp2
 go_ret
 exact⟨⟨_,rfl,hp.1,hp.2⟩,rfl⟩
def EndsOk (n s e st:Int):Prop:=(1≤st∧st≤5∧0≤s∧s≤e∧e≤n)∨(-4≤st∧st≤ -1∧ -1≤e∧e≤s∧s<n)
set_option maxRecDepth 100000 in
theorem ends_c (n:Nat) (hn:n≤2147483647) (a b c:Int) (w:World):Calls Tryz.prog 15 #[.int .i64 n, .int .i64 a, .int .i64 b, .int .i64 c] w fun e w'=>(∃s f t:Int,e= .returned (.tuple #[.int .i64 s, .int .i64 f, .int .i64 t])∧EndsOk n s f t)∧w'=w:=by
 have HT:=Lib.hid (fun(k m:Int) (hm:1≤m) (hm2:m≤4294967296)=>turn_c k m w hm hm2)
 go_enter Tryz.func15,Tryz.ntmps15
 go_upto_region 2 with(go_at_call 38;(with_reducible refine(HT.out _ _ (by decide) (by decide)).mono ?_);rintro e w1 ⟨⟨r,rfl,hr0,hr9⟩,hw⟩;have hw2:=hw.symm;clear hw;subst hw2)
 have e1:wrap64 (r-4)=r-4:=by unfold wrap64;omega
 by_cases h4:0≤r-4
 ·have e2:wrap64 (r-4+1)=r-4+1:=by unfold wrap64;omega
  have e3:wrap64 ((n:Int)+1)=n+1:=by unfold wrap64;omega
  go_upto_region 5 with(go_at_call 38;(with_reducible refine(HT.out _ _ (by omega) (by omega)).mono ?_);rintro e w1 ⟨⟨s,rfl,hs0,hs1⟩,hw⟩;have hw2:=hw.symm;clear hw;subst hw2)
  have e4:wrap64 ((n:Int)-s)=n-s:=by unfold wrap64;omega
  have e5:wrap64 ((n:Int)-s+1)=n-s+1:=by unfold wrap64;omega
  go_wp2_with (go_at_call 38;(with_reducible refine(HT.out _ _ (by omega) (by omega)).mono ?_);rintro e w1 ⟨⟨f,rfl,hf0,hf1⟩,hw⟩;have hw2:=hw.symm;clear hw;subst hw2;have e6:wrap64 (s+f)=s+f:=by unfold wrap64;omega)
  refine bodyPost_ret (v:= .tuple #[.int .i64 s, .int .i64 (s+f), .int .i64 (r-4+1)]) (by simp[results,Tryz.results15,go_sem]) rfl ?_
  exact⟨⟨_,_,_,rfl,Or.inl (by omega)⟩,rfl⟩
 ·have e3:wrap64 ((n:Int)+1)=n+1:=by unfold wrap64;omega
  go_upto_region 7 with(go_at_call 38;(with_reducible refine(HT.out _ _ (by omega) (by omega)).mono ?_);rintro e w1 ⟨⟨s,rfl,hs0,hs1⟩,hw⟩;have hw2:=hw.symm;clear hw;subst hw2;have e4:wrap64 (s-1)=s-1:=by unfold wrap64;omega)
  have e5:wrap64 (s-1+2)=s+1:=by unfold wrap64;omega
  go_wp2_with (go_at_call 38;(with_reducible refine(HT.out _ _ (by omega) (by omega)).mono ?_);rintro e w1 ⟨⟨f,rfl,hf0,hf1⟩,hw⟩;have hw2:=hw.symm;clear hw;subst hw2;have e6:wrap64 (f-1)=f-1:=by unfold wrap64;omega)
  refine bodyPost_ret (v:= .tuple #[.int .i64 (s-1), .int .i64 (f-1), .int .i64 (r-4)]) (by simp[results,Tryz.results15,go_sem]) rfl ?_
  exact⟨⟨_,_,_,rfl,Or.inr (by omega)⟩,rfl⟩
def inR (e st i:Int):Prop:=(0<st∧i<e)∨(st<0∧e<i)
instance (e st i:Int):Decidable (inR e st i):=by unfold inR;infer_instance
def Stops (s e st:Int) (k:Nat):Prop:=(∀q:Nat,q<k→inR e st (s+st*q))∧ ¬inR e st (s+st*k)
theorem Stops.one {s e st:Int} {k l:Nat} (hk:Stops s e st k) (hl:Stops s e st l):k=l:=by
 rcases Nat.lt_trichotomy k l with h|h|h
 ·exact absurd (hl.1 k h) hk.2
 ·exact h
 ·exact absurd (hk.1 l h) hl.2
theorem ends_in {n s e st:Int} (h:EndsOk n s e st) (q:Nat) (hq:inR e st (s+st*q)):0≤s+st*q∧s+st*q<n:=by
 rcases h with⟨h1,_,h3,h4,h5⟩|⟨_,h1,h3,h4,h5⟩
 ·have hp:0≤st*(q:Int):=Int.mul_nonneg (by omega) (by omega)
  rcases hq with⟨_,h⟩|⟨h,_⟩<;>omega
 ·have hp:0≤(-st)*(q:Int):=Int.mul_nonneg (by omega) (by omega)
  rw[Int.neg_mul] at hp
  rcases hq with⟨h,_⟩|⟨_,h⟩<;>omega
end Go.Proofs.YtkplnbjgkhmbcaaGreatDoor
namespace Go.Proofs.YtkplnbjgkhmbcaaGreatDoor
open Go.RowKit Go.Shelf Go.Proofs.YtkplnbjgkhmbcaaGreatDoorW.PrintWords Go.Proofs.YtkplnbjgkhmbcaaGreatDoorW.PrintLast Go.Proofs.YtkplnbjgkhmbcaaGreatDoorW.PrintMore Go.Proofs.YtkplnbjgkhmbcaaGreatDoor.PFnCompare Go.Proofs.YtkplnbjgkhmbcaaGreatDoor.PCmp Go.Proofs.YtkplnbjgkhmbcaaGreatDoor.PbytesOf
set_option linter.unusedVariables false
set_option linter.unusedSimpArgs false
def RW (w:World) (sl:Value) (us:List Value):Prop:= ∃A c,sl= .slice A us.length c∧us.length≤c∧(us≠[]→ ∃M o,A=some ⟨M,o,none⟩∧ ∀i (h:i<us.length),w.cell? ⟨M,o+i,none⟩=some us[i])
theorem RW.below {w w':World} {sl:Value} {us:List Value} (h:RW w sl us) (hb:Below w.heap.size w w'):RW w' sl us:=by
 obtain⟨A,c,rfl,h1,h2⟩:=h
 refine⟨A,c,rfl,h1,fun hne=>?_⟩
 obtain⟨M,o,rfl,hc⟩:=h2 hne
 exact⟨M,o,rfl,fun i hi=>(hb.cell (p:=⟨M,o+i,none⟩) (lt_of_cell (hc i hi))).trans (hc i hi)⟩
theorem rw_of_own {w:World} {B:Nat} {T:TypeId} {v:Value} {us:List Value} (h:w.ownsRow B T 1 v us.length us):RW w v us:=by
 rcases h.2 with⟨rfl,hn⟩|⟨g,cap,cur,rfl,_,hg,hnc,_,hsz,ht⟩
 ·exact⟨none,0,by rw[hn],by omega,fun hne=>absurd (List.eq_nil_of_length_eq_zero hn) hne⟩
 ·refine⟨_,cap,rfl,hnc,fun _=>⟨g,0,rfl,fun i hi=>?_⟩⟩
  rw[Nat.zero_add]
  refine blk_cell hg i _ ?_
  have h1:(cur.toList.take (us.length*1))[i]?=us[i]?:=by rw[ht]
  rw[List.getElem?_take,if_pos (by omega),List.getElem?_eq_getElem hi] at h1
  rw[←Array.getElem?_toList]
  exact h1
theorem rw_one {w:World} {sl:Value} {us:List Value} (h:RW w sl us) (p:Nat) (hp:p<us.length): ∃M o c,sl= .slice (some ⟨M,o,none⟩) us.length c∧us.length≤c∧w.cell? ⟨M,o+p,none⟩=some us[p]:=by
 obtain⟨A,c,rfl,h1,h2⟩:=h
 obtain⟨M,o,rfl,hc⟩:=h2 (by intro e;rw[e] at hp;simp at hp)
 exact⟨M,o,c,rfl,h1,hc p hp⟩
def pk {α:Type} (d:α) (us:List α) (s st:Int) (k:Nat):List α:=(List.range k).map fun q:Nat=>us.getD (s+st*(q:Int)).toNat d
theorem pk_len {α:Type} (d:α) (us:List α) (s st:Int) (k:Nat):(pk d us s st k).length=k:=by simp[pk]
theorem pk_succ {α:Type} (d:α) (us:List α) (s st:Int) (k:Nat):pk d us s st (k+1)=pk d us s st k++[us.getD (s+st*k).toNat d]:=by
 unfold pk
 rw[List.range_succ,List.map_append]
 rfl
theorem pk_at {α:Type} (d:α) (us:List α) (s st:Int) (k q:Nat) (h:q<(pk d us s st k).length):(pk d us s st k)[q]=us.getD (s+st*q).toNat d:=by
 simp[pk]
theorem kth_succ (s st:Int) (q:Nat):s+st*((q+1:Nat):Int)=s+st*q+st:=by
 rw[Int.natCast_add,Int.natCast_one,Int.mul_add,Int.mul_one,Int.add_assoc]
theorem ends_q {n s e st:Int} (h:EndsOk n s e st) (q:Nat) (hq:inR e st (s+st*q)):(q:Int)<n:=by
 have hr:=ends_in h q hq
 rcases h with⟨h1,_,h3,h4,h5⟩|⟨_,h1,h3,h4,h5⟩
 ·have hp:0≤(st-1)*(q:Int):=Int.mul_nonneg (by omega) (by omega)
  rw[Int.sub_mul,Int.one_mul] at hp
  omega
 ·have hp:0≤(-st-1)*(q:Int):=Int.mul_nonneg (by omega) (by omega)
  rw[Int.sub_mul,Int.one_mul,Int.neg_mul] at hp
  omega
theorem ends_out {n s e st:Int} (h:EndsOk n s e st) (h0:0≤n) (q:Nat) (hq: ∀p:Nat,p<q→inR e st (s+st*p)): -6≤s+st*q∧s+st*q≤n+6:=by
 cases q with
 |zero=>rw[Int.natCast_zero,Int.mul_zero];rcases h with h|h<;>omega
 |succ q=>
  have hr:=ends_in h q (hq q (Nat.lt_succ_self q))
  rw[kth_succ]
  rcases h with h|h<;>omega
def mes (e st i:Int):Nat:=if inR e st i then(e-i).natAbs+1 else 0
theorem mes_step {n s e st i:Int} (h:EndsOk n s e st) (hi:inR e st i):mes e st (i+st)<mes e st i:=by
 unfold mes
 rw[if_pos hi]
 split
 ·rename_i h2
  unfold inR at hi h2
  rcases h with h|h<;>omega
 ·omega
theorem sgn_in {e st i:Int} (h0:st≠0):(sgn (e-i)==sgn st)=decide (inR e st i):=by
 have h1: ∀x:Int,(x<0∧sgn x= -1)∨(x=0∧sgn x=0)∨(0<x∧sgn x=1):=by
  intro x
  unfold sgn
  by_cases h:x<0
  ·exact Or.inl ⟨h,by rw[if_pos h]⟩
  ·by_cases h':x=0
   ·exact Or.inr (Or.inl ⟨h',by rw[if_neg h,if_pos h']⟩)
   ·exact Or.inr (Or.inr ⟨by omega,by rw[if_neg h,if_neg h']⟩)
 rw[Bool.eq_iff_iff,beq_iff_eq,decide_eq_true_iff]
 unfold inR
 rcases h1 (e-i) with⟨a,b⟩|⟨a,b⟩|⟨a,b⟩<;>rcases h1 st with⟨c,d⟩|⟨c,d⟩|⟨c,d⟩<;>rw[b,d]<;>omega
set_option maxRecDepth 100000 in
theorem signum_c (x:Int) (w:World) (hx: -9223372036854775808<x∧x<9223372036854775808):Calls Tryz.prog 285 #[.int .i64 x] w fun e w'=>e= .returned (.int .i64 (sgn x))∧w'=w:=by
 have H:=Lib.hid (signum64_c x w hx)
 go_enter Tryz.func285,Tryz.ntmps285
 go_wp2_with (go_at_call 286;(with_reducible refine H.out.mono ?_);rintro e w1 ⟨rfl,hw1⟩;have hw2:=hw1.symm;clear hw1;subst hw2)
 go_ret
 exact⟨rfl,rfl⟩
def SlR (w:World) (T:TypeId) (us:List Value) (s f st:Int) (e:Ending) (w':World):Prop:= ∃v k,e= .returned (.iface T v)∧Stops s f st k∧RW w' v (pk .nilIface us s st k)∧Below w.heap.size w w'
theorem stops_one {n s f:Int} (h:EndsOk n s f 1):Stops s f 1 (f-s).toNat:=by
 have h2:0≤s∧s≤f:=by rcases h with h|h<;>omega
 refine⟨fun q hq=>Or.inl ⟨by omega,by omega⟩,fun hc=>?_⟩
 unfold inR at hc
 omega
theorem pk_drop {α:Type} (d:α) (us:List α) (s k:Nat) (h:s+k≤us.length):pk d us s 1 k=(us.drop s).take k:=by
 refine List.ext_getElem? fun i=>?_
 rw[List.getElem?_take]
 by_cases hi:i<k
 ·rw[if_pos hi,List.getElem?_drop,List.getElem?_eq_getElem (by rw[pk_len];exact hi),pk_at,List.getElem?_eq_getElem (by omega),show(((s:Nat):Int)+1*((i:Nat):Int)).toNat=s+i by omega,List.getD_eq_getElem?_getD,List.getElem?_eq_getElem (by omega)]
  rfl
 ·rw[if_neg hi,List.getElem?_eq_none (by rw[pk_len];omega)]
theorem rw_slice {w:World} {A A':Option Addr} {c:Nat} {us:List Value} (hc:us.length≤c) (h:us≠[]→ ∃M o,A=some ⟨M,o,none⟩∧ ∀i (h:i<us.length),w.cell? ⟨M,o+i,none⟩=some us[i]) (s f:Nat) (hs:s≤f) (hf:f≤us.length) (hA:c≠s→A'=A.map (fun x=>x.add s)):
 RW w (.slice A' (f-s) (c-s)) (pk .nilIface us s 1 (f-s)):=by
 have hpk:=pk_drop Value.nilIface us s (f-s) (by omega)
 have hl:=pk_len Value.nilIface us s 1 (f-s)
 refine⟨A',c-s,by rw[hl],by rw[hl];omega,fun hne=>?_⟩
 have hlt:s<f:=by
  rcases Nat.lt_or_ge s f with h|h
  ·exact h
  ·exact absurd (List.eq_nil_of_length_eq_zero (by rw[hl];omega)) hne
 obtain⟨M,o,rfl,hcell⟩:=h (by intro e;rw[e] at hf;simp at hf;omega)
 have hA':A'=some ⟨M,o+s,none⟩:=by rw[hA (by omega),Option.map_some];simp[Addr.add]
 refine⟨M,o+s,hA',fun i hi=>?_⟩
 rw[hl] at hi
 rw[pk_at,Nat.add_assoc,hcell (s+i) (by omega),show(((s:Nat):Int)+1*((i:Nat):Int)).toNat=s+i by omega,List.getD_eq_getElem?_getD,List.getElem?_eq_getElem (by omega)]
 rfl
set_option maxRecDepth 100000 in
theorem tupSlice1_c (us:List Value) (sl:Value) (s f:Int) (w:World) (h:RW w sl us) (hE:EndsOk us.length s f 1) (hn:us.length≤1000000):
 Calls Tryz.prog 291 #[sl, .int .i64 s, .int .i64 f, .int .i64 1] w (SlR w 98 us s f 1):=by
 obtain⟨A,c,rfl,hc,hcell⟩:=h
 have hE1:0≤s∧s≤f∧f≤us.length:=by rcases hE with h|h<;>omega
 have hS:=stops_one hE
 obtain⟨s',rfl⟩: ∃s':Nat,s=s':=⟨s.toNat,by omega⟩
 obtain⟨f',rfl⟩: ∃f':Nat,f=f':=⟨f.toNat,by omega⟩
 have hsf:s'≤f':=by omega
 have hfn:f'≤us.length:=by omega
 have hfc:(f':Int)≤c:=by omega
 have HX:=Lib.hid (And.intro hS hcell)
 clear hS hcell hE
 go_enter Tryz.func291,Tryz.ntmps291
 go_wp2
 all_goals
  go_ret
  obtain⟨hS,hcell⟩:=HX.out
  have hk:((f':Int)-s').toNat=f'-s':=by omega
  rw[hk] at hS
  first
   |exact⟨_,_,rfl,hS,rw_slice hc hcell s' f' hsf hfn (fun h=>rfl),Below.refl _ _⟩
   |(have hr:=rw_slice (A':=A) hc hcell s' f' hsf hfn (fun h=>by omega);rw[show c-s'=0 by omega] at hr;exact⟨_,_,rfl,hS,hr,Below.refl _ _⟩)
set_option maxRecDepth 100000 in
set_option maxHeartbeats 1000000 in
theorem tupSliceN_c (us:List Value) (sl:Value) (s f st:Int) (w:World) (h:RW w sl us) (hif: ∀u∈us,∃T x,u= .iface T x) (hE:EndsOk us.length s f st) (h1:st≠1) (hn:us.length≤1000000):
 Calls Tryz.prog 291 #[sl, .int .i64 s, .int .i64 f, .int .i64 st] w (SlR w 98 us s f st):=by
 have H0: ∃A c,sl= .slice A us.length c:=by obtain⟨A,c,e,_⟩:=h;exact⟨A,c,e⟩
 obtain⟨A,c,rfl⟩:=H0
 have HR:=Lib.hid h
 have HE:=Lib.hid hE
 have HIF:=Lib.hid hif
 have hst:st≠0∧ -4≤st∧st≤5:=by rcases hE with h|h<;>omega
 have hsf: -1≤s∧s≤us.length∧ -1≤f∧f≤us.length:=by rcases hE with h|h<;>omega
 have e1:(st==1)=false:=by simp[h1]
 have HS:=Lib.hid (fun(x:Int) (hx: -9223372036854775808<x∧x<9223372036854775808) W=>signum_c x W hx)
 have hgs:(sgn st==sgn st)=true:=by simp
 clear h hE hif
 go_enter Tryz.func291,Tryz.ntmps291
 go_wp2_with (go_at_call 285;(with_reducible refine(HS.out _ (by omega) _).mono ?_);rintro e w1 ⟨rfl,hw1⟩;have hw2:=hw1.symm;clear hw1;subst hw2)
 go_loopw [10,11] (fun v i wr=> ∃q:Nat,i= .int .i64 (s+st*q)∧Hid (∀p:Nat,p<q→inR f st (s+st*p))∧q≤1000000∧Hid (wr.ownsRow w.heap.size 57 1 v q (pk .nilIface us s st q)∧Below w.heap.size w wr)) (fun _ i _=>mes f st (intOf i))
 case atStart=>exact⟨0,by simp,Lib.hid fun p h=>absurd h (Nat.not_lt_zero _),by omega,Lib.hid ⟨by simp[World.ownsRow,pk],Below.refl _ _⟩⟩
 case round=>
  obtain⟨q,rfl,HQ,hq9,HO⟩:=hrel
  obtain⟨i,hi⟩: ∃i,s+st*(q:Int)=i:=⟨_,rfl⟩
  by_cases hin:inR f st i
  ·rw[hi]
   have hrange:=ends_in HE.out q (by rw[hi];exact hin)
   have hqn:=ends_q HE.out q (by rw[hi];exact hin)
   rw[hi] at hrange
   obtain⟨p,rfl⟩: ∃p:Nat,i=p:=⟨i.toNat,by omega⟩
   have hp:p<us.length:=by omega
   have HIN:=Lib.hid hin
   have eg:(sgn (f-p)==sgn st)=true:=by rw[sgn_in hst.1];exact decide_eq_true hin
   have ew:wrap64 (f-p)=f-p:=by unfold wrap64;omega
   have ew2:wrap64 ((p:Int)+st)=(p:Int)+st:=by unfold wrap64;omega
   obtain⟨M,o,c',hA,hcc,hcell⟩:=rw_one HR.out p hp
   obtain⟨rfl,rfl⟩:A=some ⟨M,o,none⟩∧c=c':=by injection hA with a _ b;exact⟨a,b⟩
   obtain⟨T,x,hx⟩:=HIF.out _ (List.getElem_mem hp)
   have hcw:=(HO.out.2.cell (p:=⟨M,o+p,none⟩) (lt_of_cell hcell)).trans hcell
   rw[hx] at hcw
   have hlt:(p:Int)<us.length:=by omega
   have HX:=Lib.hid hx
   have HHI:=Lib.hid hi
   clear hcell hcc hA hi hin hx
   go_wp2_with (first
    |(at_builtin;refine print_append_cells (w0:=w) w.heap.size rfl _ _ 98 57 .nilIface 1 16 rfl Tryz.underlying98 valInfo rfl (by decide) (by decide) u10 q (pk .nilIface us s st q) [.iface T x] rfl rfl rfl (by intro u hu;rw[List.mem_singleton] at hu;subst hu;rfl) HO.out.1 HO.out.2 HO.out.2.size (by omega) ?_;intro v1 w2 ho hb2 hg hat;have HO2:=Lib.hid (And.intro ho hb2);clear ho hb2 hg hat)
    |(go_at_call 285;(with_reducible refine(HS.out _ (by omega) _).mono ?_);rintro e w1 ⟨rfl,hw1⟩;have hw2:=hw1.symm;clear hw1;subst hw2))
   go_roundw
   case rel=>
    refine⟨q+1,?_,Lib.hid (fun j hj=>?_),by omega,Lib.hid ⟨?_,HO2.out.2⟩⟩
    ·rw[kth_succ,HHI.out]
    ·by_cases h9:j<q
     ·exact HQ.out j h9
     ·obtain rfl:j=q:=by omega
      rw[HHI.out];exact HIN.out
    ·have:=HO2.out.1
     rw[pk_succ,HHI.out,show((p:Nat):Int).toNat=p by omega,List.getD_eq_getElem?_getD,List.getElem?_eq_getElem hp,HX.out]
     exact this
   case measure=>exact mes_step HE.out HIN.out
  ·rw[hi]
   have hir:=ends_out HE.out (by omega) q HQ.out
   rw[hi] at hir
   have eg:(sgn (f-i)==sgn st)=false:=by rw[sgn_in hst.1];exact decide_eq_false hin
   have ew:wrap64 (f-i)=f-i:=by unfold wrap64;omega
   have HIN:=Lib.hid hin
   have HHI:=Lib.hid hi
   clear hin hi
   go_wp2_with (go_at_call 285;(with_reducible refine(HS.out _ (by omega) _).mono ?_);rintro e w1 ⟨rfl,hw1⟩;have hw2:=hw1.symm;clear hw1;subst hw2)
   go_ret
   refine⟨_,q,rfl,⟨HQ.out,by rw[HHI.out];exact HIN.out⟩,rw_of_own (B:=w.heap.size) (T:=57) (by rw[pk_len];exact HO.out.1),HO.out.2⟩
end Go.Proofs.YtkplnbjgkhmbcaaGreatDoor
namespace Go.Proofs.YtkplnbjgkhmbcaaGreatDoor
open Go.RowKit Go.Shelf Go.Proofs.YtkplnbjgkhmbcaaGreatDoorW.PrintWords Go.Proofs.YtkplnbjgkhmbcaaGreatDoorW.PrintLast Go.Proofs.YtkplnbjgkhmbcaaGreatDoorW.PrintMore Go.Proofs.YtkplnbjgkhmbcaaGreatDoor.PFnCompare Go.Proofs.YtkplnbjgkhmbcaaGreatDoor.PCmp Go.Proofs.YtkplnbjgkhmbcaaGreatDoor.PbytesOf
set_option linter.unusedVariables false
set_option linter.unusedSimpArgs false
theorem app_vals (w0 W:World) (g:Nat) (A:Option Addr) (c:Nat) (news:List Value) (hg:W.heap[g]?=some (.cells #[] 57 (0,0))) (hB:w0.heap.size≤g) (hR:RW W (.slice A news.length c) news) (hif: ∀u∈news,∃T x,u= .iface T x) (hb:Below w0.heap.size w0 W) (hn:news.length≤1000000):
 ∃v1 w1,(Builtin.append_ #[94,94] 94 #[.slice (some ⟨g,0,none⟩) 0 0, .slice A news.length c]).run Tryz.prog W= .ok v1 w1∧w1.ownsRow w0.heap.size 57 1 v1 news.length news∧Below w0.heap.size w0 w1:=by
 obtain⟨i0,hi,hz0,hz1,hz2⟩:=info_parts valInfo
 have ht:=Tryz.underlying94
 have hown:W.ownsRow w0.heap.size 57 1 (.slice (some ⟨g,0,none⟩) 0 0) 0 []:=⟨rfl, .inr ⟨g,0,#[],rfl,hB,hg,Nat.le_refl _,by simp[maxLen],rfl,rfl⟩⟩
 obtain⟨A',c',e,hc,hcell⟩:=hR
 obtain⟨rfl,rfl⟩:A=A'∧c=c':=by injection e with a _ b;exact⟨a,b⟩
 clear e
 by_cases h0:news=[]
 ·subst h0
  rcases A with _|ad
  ·refine⟨.slice (some ⟨g,0,none⟩) 0 0,W,?_,hown,hb⟩
   simp[Builtin.append_,run_underlying ht,sizeOf,typeInfo,hi,Builtin.lenOf,Builtin.firstCells,storeCells]
  ·obtain⟨v1,w1,hrun,h2,hg2,_,hat⟩:=run_append_own_at (P:=Tryz.prog) W w0.heap.size 94 94 57 i0 _ 1 16 ht hi hz0 hz1 hz2 rfl (by omega) _ 0 [] hown ad 0 c [] rfl (by intro j u hj;simp at hj) (by intro u hu;cases hu) (by simp[maxLen]) (by omega) hb.size
   exact⟨v1,w1,hrun,h2,hb.grown hg2 hb.size (own_base hown)⟩
 ·obtain⟨M,o,rfl,hcc⟩:=hcell h0
  obtain⟨v1,w1,hrun,h2,hg2,_,hat⟩:=run_append_own_at (P:=Tryz.prog) W w0.heap.size 94 94 57 i0 _ 1 16 ht hi hz0 hz1 hz2 rfl (by omega) _ 0 [] hown ⟨M,o,none⟩ news.length c news (by simp)
   (by
    intro j u hj
    obtain⟨hl,rfl⟩:=List.getElem?_eq_some_iff.1 hj
    have:=hcc j hl
    unfold Addr.add
    split
    ·rename_i h;subst h;exact this
    ·exact this)
   (by intro u hu;obtain⟨T,x,rfl⟩:=hif u hu;rfl) (by simp only[maxLen];omega) (by omega) hb.size
  exact⟨v1,w1,hrun,by simpa using h2,hb.grown hg2 hb.size (own_base hown)⟩
def SlLR (w:World) (us:List Value) (s f st:Int) (e:Ending) (w':World):Prop:= ∃v k g,e= .returned (.iface 82 (.pointer (some ⟨g,0,none⟩)))∧Stops s f st k∧LT w' g v∧RW w' v (pk .nilIface us s st k)∧Below w.heap.size w w'
set_option maxRecDepth 100000 in
theorem listSlice1_c (us:List Value) (g:Nat) (sl:Value) (s f:Int) (w:World) (hg:LT w g sl) (h:RW w sl us) (hif: ∀u∈us,∃T x,u= .iface T x) (hE:EndsOk us.length s f 1) (hn:us.length≤1000000):
 Calls Tryz.prog 280 #[.pointer (some ⟨g,0,none⟩), .int .i64 s, .int .i64 f, .int .i64 1] w (SlLR w us s f 1):=by
 obtain⟨A,c,rfl,hc,hcell⟩:=h
 have hE1:0≤s∧s≤f∧f≤us.length:=by rcases hE with h|h<;>omega
 have hS:=stops_one hE
 obtain⟨s',rfl⟩: ∃s':Nat,s=s':=⟨s.toNat,by omega⟩
 obtain⟨f',rfl⟩: ∃f':Nat,f=f':=⟨f.toNat,by omega⟩
 have hsf:s'≤f':=by omega
 have hfn:f'≤us.length:=by omega
 have hfc:(f':Int)≤c:=by omega
 have hk:((f':Int)-s').toNat=f'-s':=by omega
 rw[hk] at hS
 obtain⟨W,hW⟩: ∃W,W=w.alloc (.cells #[] 57):=⟨_,rfl⟩
 have hb:Below w.heap.size w W:=by rw[hW];exact(Below.refl _ w).alloc (Nat.le_refl _) _
 have hgn:W.heap[w.heap.size]?=some (.cells #[] 57 (0,0)):=by rw[hW];exact blk_new _ _
 have c0:=blk_cell (blk_below hg hb) 0 _ rfl
 have hlk:=pk_len Value.nilIface us (s':Int) 1 (f'-s')
 have hifk: ∀u∈pk Value.nilIface us (s':Int) 1 (f'-s'),∃T x,u= .iface T x:=by
  rw[pk_drop _ _ _ _ (by omega)]
  exact fun u hu=>hif u (List.mem_of_mem_drop (List.mem_of_mem_take hu))
 have HA: ∀A',(c≠s'→A'=A.map (fun x=>x.add s'))→ ∃v1 w1,(Builtin.append_ #[94,94] 94 #[.slice (some ⟨w.heap.size,0,none⟩) 0 0, .slice A' (f'-s') (c-s')]).run Tryz.prog W= .ok v1 w1∧w1.ownsRow w.heap.size 57 1 v1 (f'-s') (pk .nilIface us s' 1 (f'-s'))∧Below w.heap.size w w1:=fun A' hA'=>by
  have hr:=(rw_slice (w:=w) (A':=A') hc hcell s' f' hsf hfn hA').below hb
  have:=app_vals w W w.heap.size A' (c-s') (pk .nilIface us s' 1 (f'-s')) hgn (Nat.le_refl _) (by rw[hlk];exact hr) hifk hb (by rw[hlk];omega)
  rw[hlk] at this
  exact this
 have HX:=Lib.hid hS
 subst hW
 by_cases hcs:c=s'
 ·obtain⟨v1,w1,hrun,hown,hb1⟩:=HA A (fun h=>absurd hcs h)
  rw[show c-s'=0 by omega] at hrun
  obtain⟨A0,n0,c0',rfl⟩: ∃A0 n0 c0',v1= .slice A0 n0 c0':=by rcases hown.2 with⟨e,_⟩|⟨_,_,_,e,_⟩<;>exact⟨_,_,_,e⟩
  have happ:=Lib.hid hrun
  have HO:=Lib.hid (And.intro hown hb1)
  have HN:=Lib.hid (newList_c A0 n0 c0' w1)
  clear hS hcell hE HA hrun hown hb1 hifk hgn hb hg
  go_enter Tryz.func280,Tryz.ntmps280
  go_wp2_with (first
   |(at_builtin;refine wpList_append_run rfl _ _ _ rfl _ _ _ rfl rfl happ.out ?_)
   |(go_at_call 56;(with_reducible refine HN.out.mono ?_);rintro e w2 ⟨rfl,hk2,hb2⟩;have HK:=Lib.hid (And.intro hk2 hb2);clear hk2 hb2))
  go_ret
  exact⟨_,_,_,rfl,HX.out,HK.out.1,(rw_of_own (B:=w.heap.size) (T:=57) (by rw[hlk];exact HO.out.1)).below HK.out.2,HO.out.2.trans (HK.out.2.mono HO.out.2.size)⟩
 ·obtain⟨v1,w1,hrun,hown,hb1⟩:=HA _ (fun _=>rfl)
  obtain⟨A0,n0,c0',rfl⟩: ∃A0 n0 c0',v1= .slice A0 n0 c0':=by rcases hown.2 with⟨e,_⟩|⟨_,_,_,e,_⟩<;>exact⟨_,_,_,e⟩
  have happ:=Lib.hid hrun
  have HO:=Lib.hid (And.intro hown hb1)
  have HN:=Lib.hid (newList_c A0 n0 c0' w1)
  clear hS hcell hE HA hrun hown hb1 hifk hgn hb hg
  go_enter Tryz.func280,Tryz.ntmps280
  go_wp2_with (first
   |(at_builtin;refine wpList_append_run rfl _ _ _ rfl _ _ _ rfl rfl happ.out ?_)
   |(go_at_call 56;(with_reducible refine HN.out.mono ?_);rintro e w2 ⟨rfl,hk2,hb2⟩;have HK:=Lib.hid (And.intro hk2 hb2);clear hk2 hb2))
  go_ret
  exact⟨_,_,_,rfl,HX.out,HK.out.1,(rw_of_own (B:=w.heap.size) (T:=57) (by rw[hlk];exact HO.out.1)).below HK.out.2,HO.out.2.trans (HK.out.2.mono HO.out.2.size)⟩
set_option maxRecDepth 100000 in
set_option maxHeartbeats 1000000 in
theorem listSliceN_c (us:List Value) (g:Nat) (sl:Value) (s f st:Int) (w:World) (hg:LT w g sl) (h:RW w sl us) (hif: ∀u∈us,∃T x,u= .iface T x) (hE:EndsOk us.length s f st) (h1:st≠1) (hn:us.length≤1000000):
 Calls Tryz.prog 280 #[.pointer (some ⟨g,0,none⟩), .int .i64 s, .int .i64 f, .int .i64 st] w (SlLR w us s f st):=by
 have H0: ∃A c,sl= .slice A us.length c:=by obtain⟨A,c,e,_⟩:=h;exact⟨A,c,e⟩
 obtain⟨A,c,rfl⟩:=H0
 have HR:=Lib.hid h
 have HE:=Lib.hid hE
 have HIF:=Lib.hid hif
 have hst:st≠0∧ -4≤st∧st≤5:=by rcases hE with h|h<;>omega
 have hsf: -1≤s∧s≤us.length∧ -1≤f∧f≤us.length:=by rcases hE with h|h<;>omega
 have e1:(st==1)=false:=by simp[h1]
 have HS:=Lib.hid (fun(x:Int) (hx: -9223372036854775808<x∧x<9223372036854775808) W=>signum_c x W hx)
 have hgs:(sgn st==sgn st)=true:=by simp
 have HG:=Lib.hid hg
 clear h hE hif hg
 go_enter Tryz.func280,Tryz.ntmps280
 go_wp2_with (go_at_call 285;(with_reducible refine(HS.out _ (by omega) _).mono ?_);rintro e w1 ⟨rfl,hw1⟩;have hw2:=hw1.symm;clear hw1;subst hw2)
 go_loopw [11,12] (fun v i wr=> ∃q:Nat,i= .int .i64 (s+st*q)∧Hid (∀p:Nat,p<q→inR f st (s+st*p))∧q≤1000000∧Hid (wr.ownsRow w.heap.size 57 1 v q (pk .nilIface us s st q)∧Below w.heap.size w wr)) (fun _ i _=>mes f st (intOf i))
 case atStart=>exact⟨0,by simp,Lib.hid fun p h=>absurd h (Nat.not_lt_zero _),by omega,Lib.hid ⟨by simp[World.ownsRow,pk],Below.refl _ _⟩⟩
 case round=>
  obtain⟨q,rfl,HQ,hq9,HO⟩:=hrel
  obtain⟨i,hi⟩: ∃i,s+st*(q:Int)=i:=⟨_,rfl⟩
  by_cases hin:inR f st i
  ·rw[hi]
   have hrange:=ends_in HE.out q (by rw[hi];exact hin)
   have hqn:=ends_q HE.out q (by rw[hi];exact hin)
   rw[hi] at hrange
   obtain⟨p,rfl⟩: ∃p:Nat,i=p:=⟨i.toNat,by omega⟩
   have hp:p<us.length:=by omega
   have HIN:=Lib.hid hin
   have eg:(sgn (f-p)==sgn st)=true:=by rw[sgn_in hst.1];exact decide_eq_true hin
   have ew:wrap64 (f-p)=f-p:=by unfold wrap64;omega
   have ew2:wrap64 ((p:Int)+st)=(p:Int)+st:=by unfold wrap64;omega
   obtain⟨M,o,c',hA,hcc,hcell⟩:=rw_one HR.out p hp
   obtain⟨rfl,rfl⟩:A=some ⟨M,o,none⟩∧c=c':=by injection hA with a _ b;exact⟨a,b⟩
   obtain⟨T,x,hx⟩:=HIF.out _ (List.getElem_mem hp)
   have hcw:=(HO.out.2.cell (p:=⟨M,o+p,none⟩) (lt_of_cell hcell)).trans hcell
   rw[hx] at hcw
   have c0:=blk_cell (blk_below HG.out HO.out.2) 0 _ rfl
   have hlt:(p:Int)<us.length:=by omega
   have HX:=Lib.hid hx
   have HHI:=Lib.hid hi
   clear hcell hcc hA hi hin hx
   go_wp2_with (first
    |(at_builtin;refine print_append_cells (w0:=w) w.heap.size rfl _ _ 94 57 .nilIface 1 16 rfl Tryz.underlying94 valInfo rfl (by decide) (by decide) u11 q (pk .nilIface us s st q) [.iface T x] rfl rfl rfl (by intro u hu;rw[List.mem_singleton] at hu;subst hu;rfl) HO.out.1 HO.out.2 HO.out.2.size (by omega) ?_;intro v1 w2 ho hb2 hg hat;have HO2:=Lib.hid (And.intro ho hb2);clear ho hb2 hg hat)
    |(go_at_call 285;(with_reducible refine(HS.out _ (by omega) _).mono ?_);rintro e w1 ⟨rfl,hw1⟩;have hw2:=hw1.symm;clear hw1;subst hw2))
   go_roundw
   case rel=>
    refine⟨q+1,?_,Lib.hid (fun j hj=>?_),by omega,Lib.hid ⟨?_,HO2.out.2⟩⟩
    ·rw[kth_succ,HHI.out]
    ·by_cases h9:j<q
     ·exact HQ.out j h9
     ·obtain rfl:j=q:=by omega
      rw[HHI.out];exact HIN.out
    ·have:=HO2.out.1
     rw[pk_succ,HHI.out,show((p:Nat):Int).toNat=p by omega,List.getD_eq_getElem?_getD,List.getElem?_eq_getElem hp,HX.out]
     exact this
   case measure=>exact mes_step HE.out HIN.out
  ·rw[hi]
   have hir:=ends_out HE.out (by omega) q HQ.out
   rw[hi] at hir
   have eg:(sgn (f-i)==sgn st)=false:=by rw[sgn_in hst.1];exact decide_eq_false hin
   have ew:wrap64 (f-i)=f-i:=by unfold wrap64;omega
   have HIN:=Lib.hid hin
   have HHI:=Lib.hid hi
   clear hin hi
   have HOL:Hid (∃A0 n0 c0',u11= .slice A0 n0 c0'):=Lib.hid (by rcases HO.out.1.2 with⟨e,_⟩|⟨_,_,_,e,_⟩<;>exact⟨_,_,_,e⟩)
   obtain⟨A0,n0,c0',rfl⟩:=HOL.out
   have HN:=Lib.hid (newList_c A0 n0 c0' wr)
   go_wp2_with (first
    |(go_at_call 285;(with_reducible refine(HS.out _ (by omega) _).mono ?_);rintro e w1 ⟨rfl,hw1⟩;have hw2:=hw1.symm;clear hw1;subst hw2)
    |(go_at_call 56;(with_reducible refine HN.out.mono ?_);rintro e w2 ⟨rfl,hk2,hb2⟩;have HK:=Lib.hid (And.intro hk2 hb2);clear hk2 hb2))
   go_ret
   exact⟨_,q,_,rfl,⟨HQ.out,by rw[HHI.out];exact HIN.out⟩,HK.out.1,(rw_of_own (B:=w.heap.size) (T:=57) (by rw[pk_len];exact HO.out.1)).below HK.out.2,HO.out.2.trans (HK.out.2.mono HO.out.2.size)⟩
end Go.Proofs.YtkplnbjgkhmbcaaGreatDoor
namespace Go.Proofs.YtkplnbjgkhmbcaaGreatDoor
open Go.RowKit Go.Shelf Go.Proofs.YtkplnbjgkhmbcaaGreatDoorW.PrintWords Go.Proofs.YtkplnbjgkhmbcaaGreatDoorW.PrintLast Go.Proofs.YtkplnbjgkhmbcaaGreatDoorW.PrintMore Go.Proofs.YtkplnbjgkhmbcaaGreatDoor.PFnCompare Go.Proofs.YtkplnbjgkhmbcaaGreatDoor.PCmp Go.Proofs.YtkplnbjgkhmbcaaGreatDoor.PbytesOf
set_option linter.unusedVariables false
set_option linter.unusedSimpArgs false
theorem byteInfoS:(Tryz.prog.info? 5).map (fun i=>(i.zero,i.size,i.bytes))=some (some (.int .u8 0),1,1):=by kernel_rfl
def pkT (t:ByteArray) (s st:Int) (k:Nat):ByteArray:=⟨(pk 0 t.data.toList s st k).toArray⟩
def byteVs (l:List UInt8):List Value:=l.map fun b=> .int .u8 (b.toNat:Int)
theorem extract_pk (t:ByteArray) (s f:Nat) (hs:s≤f) (hf:f≤t.size):t.extract s f=pkT t s 1 (f-s):=by
 obtain⟨⟨l⟩⟩:=t
 have hf':f≤l.length:=hf
 rw[ByteArray.extract_mk]
 unfold pkT
 rw[pk_drop (0:UInt8) l s (f-s) (by omega)]
theorem byte_at (t:ByteArray) (p:Nat) (hp:p<t.size):t.data.toList.getD p 0=t[p]:=by
 obtain⟨⟨l⟩⟩:=t
 have hp':p<l.length:=hp
 rw[List.getD_eq_getElem?_getD]
 show l[p]?.getD 0=l[p]
 rw[List.getElem?_eq_getElem hp']
 rfl
theorem conv_own {w:World} {B:Nat} {v:Value} {l:List UInt8} (h:w.ownsRow B 5 1 v l.length (byteVs l)) (dst:TypeId) (hd:Tryz.prog.underlying dst=some .string):(convert 22 dst v).run Tryz.prog w= .ok (.string ⟨l.toArray⟩) w:=by
 have hlen:(byteVs l).length=l.length:=by simp[byteVs]
 rcases h.2 with⟨rfl,hn⟩|⟨g,cap,cur,rfl,hb,hg,h1,h2,h3,h4⟩
 ·obtain rfl:l=[]:=List.eq_nil_of_length_eq_zero hn
  exact run_convert_bytes_nil w 22 5 Tryz.underlying22 Tryz.underlying5 0 0 dst hd
 ·refine run_convert_bytes_back w 22 dst 5 ⟨g,0,none⟩ cap l Tryz.underlying22 Tryz.underlying5 hd fun j hj=>?_
  rw[show(⟨g,0,none⟩:Addr).add j=⟨g,j,none⟩ by unfold Addr.add;split<;>simp_all]
  refine blk_cell hg j _ ?_
  have e:(cur.toList.take (l.length*1))[j]?=(byteVs l)[j]?:=by rw[h4]
  rw[List.getElem?_take,if_pos (by omega)] at e
  rw[←Array.getElem?_toList,e]
  simp[byteVs,List.getElem?_eq_getElem hj]
def SlTR (w:World) (T:TypeId) (t:ByteArray) (s f st:Int) (e:Ending) (w':World):Prop:= ∃k,e= .returned (.iface T (.string (pkT t s st k)))∧Stops s f st k∧Below w.heap.size w w'
set_option maxRecDepth 100000 in
theorem strSlice1_c (t:ByteArray) (s f:Int) (w:World) (hE:EndsOk t.size s f 1) (hn:t.size≤2147483647):
 Calls Tryz.prog 360 #[.string t, .int .i64 s, .int .i64 f, .int .i64 1] w (SlTR w 141 t s f 1):=by
 have hE1:0≤s∧s≤f∧f≤t.size:=by rcases hE with h|h<;>omega
 have hS:=stops_one hE
 obtain⟨s',rfl⟩: ∃s':Nat,s=s':=⟨s.toNat,by omega⟩
 obtain⟨f',rfl⟩: ∃f':Nat,f=f':=⟨f.toNat,by omega⟩
 have hsf:s'≤f':=by omega
 have hfn:f'≤t.size:=by omega
 have hk:((f':Int)-s').toNat=f'-s':=by omega
 rw[hk] at hS
 have HX:=Lib.hid (And.intro hS (extract_pk t s' f' hsf hfn))
 clear hS hE
 go_enter Tryz.func360,Tryz.ntmps360
 go_wp2
 go_ret
 exact⟨_,by first|(rw[←HX.out.2];rfl)|(rw[←HX.out.2];simp),HX.out.1,Below.refl _ _⟩
set_option maxRecDepth 100000 in
set_option maxHeartbeats 1000000 in
theorem strSliceN_c (t:ByteArray) (s f st:Int) (w:World) (hE:EndsOk t.size s f st) (h1:st≠1) (hn:t.size≤2147483647):
 Calls Tryz.prog 360 #[.string t, .int .i64 s, .int .i64 f, .int .i64 st] w (SlTR w 141 t s f st):=by
 have HE:=Lib.hid hE
 have hst:st≠0∧ -4≤st∧st≤5:=by rcases hE with h|h<;>omega
 have hsf: -1≤s∧s≤t.size∧ -1≤f∧f≤t.size:=by rcases hE with h|h<;>omega
 have e1:(st==1)=false:=by simp[h1]
 have HS:=Lib.hid (fun(x:Int) (hx: -9223372036854775808<x∧x<9223372036854775808) W=>signum_c x W hx)
 have hgs:(sgn st==sgn st)=true:=by simp
 clear hE
 go_enter Tryz.func360,Tryz.ntmps360
 go_wp2_with (go_at_call 285;(with_reducible refine(HS.out _ (by omega) _).mono ?_);rintro e w1 ⟨rfl,hw1⟩;have hw2:=hw1.symm;clear hw1;subst hw2)
 go_loopw [10,11] (fun v i wr=> ∃q:Nat,i= .int .i64 (s+st*q)∧Hid (∀p:Nat,p<q→inR f st (s+st*p))∧q≤2147483647∧Hid (wr.ownsRow w.heap.size 5 1 v q (byteVs (pk 0 t.data.toList s st q))∧Below w.heap.size w wr)) (fun _ i _=>mes f st (intOf i))
 case atStart=>exact⟨0,by simp,Lib.hid fun p h=>absurd h (Nat.not_lt_zero _),by omega,Lib.hid ⟨by simp[World.ownsRow,pk,byteVs],Below.refl _ _⟩⟩
 case round=>
  obtain⟨q,rfl,HQ,hq9,HO⟩:=hrel
  obtain⟨i,hi⟩: ∃i,s+st*(q:Int)=i:=⟨_,rfl⟩
  by_cases hin:inR f st i
  ·rw[hi]
   have hrange:=ends_in HE.out q (by rw[hi];exact hin)
   have hqn:=ends_q HE.out q (by rw[hi];exact hin)
   rw[hi] at hrange
   obtain⟨p,rfl⟩: ∃p:Nat,i=p:=⟨i.toNat,by omega⟩
   have hp:p<t.size:=by omega
   have HIN:=Lib.hid hin
   have eg:(sgn (f-p)==sgn st)=true:=by rw[sgn_in hst.1];exact decide_eq_true hin
   have ew:wrap64 (f-p)=f-p:=by unfold wrap64;omega
   have ew2:wrap64 ((p:Int)+st)=(p:Int)+st:=by unfold wrap64;omega
   have hlt:(p:Int)<t.size:=by omega
   have HHI:=Lib.hid hi
   clear hi hin
   go_wp2_with (first
    |(at_builtin;refine print_append_cells (w0:=w) w.heap.size rfl _ _ 22 5 (.int .u8 0) 1 1 rfl Tryz.underlying22 byteInfoS rfl (by decide) (by decide) u10 q (byteVs (pk 0 t.data.toList s st q)) [.int .u8 _] rfl rfl rfl (by intro u hu;rw[List.mem_singleton] at hu;subst hu;rfl) HO.out.1 HO.out.2 HO.out.2.size (by omega) ?_;intro v1 w2 ho hb2 hg hat;have HO2:=Lib.hid (And.intro ho hb2);clear ho hb2 hg hat)
    |(go_at_call 285;(with_reducible refine(HS.out _ (by omega) _).mono ?_);rintro e w1 ⟨rfl,hw1⟩;have hw2:=hw1.symm;clear hw1;subst hw2))
   go_roundw
   case rel=>
    refine⟨q+1,?_,Lib.hid (fun j hj=>?_),by omega,Lib.hid ⟨?_,HO2.out.2⟩⟩
    ·rw[kth_succ,HHI.out]
    ·by_cases h9:j<q
     ·exact HQ.out j h9
     ·obtain rfl:j=q:=by omega
      rw[HHI.out];exact HIN.out
    ·have:=HO2.out.1
     rw[pk_succ,HHI.out,show((p:Nat):Int).toNat=p by omega,byte_at t p hp]
     unfold byteVs at this⊢
     rw[List.map_append]
     exact this
   case measure=>exact mes_step HE.out HIN.out
  ·rw[hi]
   have hir:=ends_out HE.out (by omega) q HQ.out
   rw[hi] at hir
   have eg:(sgn (f-i)==sgn st)=false:=by rw[sgn_in hst.1];exact decide_eq_false hin
   have ew:wrap64 (f-i)=f-i:=by unfold wrap64;omega
   have HIN:=Lib.hid hin
   have HHI:=Lib.hid hi
   have hcv:=conv_own (B:=w.heap.size) (w:=wr) (v:=u10) (l:=pk 0 t.data.toList s st q) (by rw[pk_len];exact HO.out.1) 141 Tryz.underlying141
   clear hin hi
   go_wp2_with (go_at_call 285;(with_reducible refine(HS.out _ (by omega) _).mono ?_);rintro e w1 ⟨rfl,hw1⟩;have hw2:=hw1.symm;clear hw1;subst hw2)
   go_ret
   exact⟨q,rfl,⟨HQ.out,by rw[HHI.out];exact HIN.out⟩,HO.out.2⟩
set_option maxRecDepth 100000 in
theorem bytSlice1_c (t:ByteArray) (s f:Int) (w:World) (hE:EndsOk t.size s f 1) (hn:t.size≤2147483647):
 Calls Tryz.prog 374 #[.string t, .int .i64 s, .int .i64 f, .int .i64 1] w (SlTR w 142 t s f 1):=by
 have hE1:0≤s∧s≤f∧f≤t.size:=by rcases hE with h|h<;>omega
 have hS:=stops_one hE
 obtain⟨s',rfl⟩: ∃s':Nat,s=s':=⟨s.toNat,by omega⟩
 obtain⟨f',rfl⟩: ∃f':Nat,f=f':=⟨f.toNat,by omega⟩
 have hsf:s'≤f':=by omega
 have hfn:f'≤t.size:=by omega
 have hk:((f':Int)-s').toNat=f'-s':=by omega
 rw[hk] at hS
 have HX:=Lib.hid (And.intro hS (extract_pk t s' f' hsf hfn))
 clear hS hE
 go_enter Tryz.func374,Tryz.ntmps374
 go_wp2
 go_ret
 exact⟨_,by first|(rw[←HX.out.2];rfl)|(rw[←HX.out.2];simp),HX.out.1,Below.refl _ _⟩
set_option maxRecDepth 100000 in
set_option maxHeartbeats 1000000 in
theorem bytSliceN_c (t:ByteArray) (s f st:Int) (w:World) (hE:EndsOk t.size s f st) (h1:st≠1) (hn:t.size≤2147483647):
 Calls Tryz.prog 374 #[.string t, .int .i64 s, .int .i64 f, .int .i64 st] w (SlTR w 142 t s f st):=by
 have HE:=Lib.hid hE
 have hst:st≠0∧ -4≤st∧st≤5:=by rcases hE with h|h<;>omega
 have hsf: -1≤s∧s≤t.size∧ -1≤f∧f≤t.size:=by rcases hE with h|h<;>omega
 have e1:(st==1)=false:=by simp[h1]
 have HS:=Lib.hid (fun(x:Int) (hx: -9223372036854775808<x∧x<9223372036854775808) W=>signum_c x W hx)
 have hgs:(sgn st==sgn st)=true:=by simp
 clear hE
 go_enter Tryz.func374,Tryz.ntmps374
 go_wp2_with (go_at_call 285;(with_reducible refine(HS.out _ (by omega) _).mono ?_);rintro e w1 ⟨rfl,hw1⟩;have hw2:=hw1.symm;clear hw1;subst hw2)
 go_loopw [10,11] (fun v i wr=> ∃q:Nat,i= .int .i64 (s+st*q)∧Hid (∀p:Nat,p<q→inR f st (s+st*p))∧q≤2147483647∧Hid (wr.ownsRow w.heap.size 5 1 v q (byteVs (pk 0 t.data.toList s st q))∧Below w.heap.size w wr)) (fun _ i _=>mes f st (intOf i))
 case atStart=>exact⟨0,by simp,Lib.hid fun p h=>absurd h (Nat.not_lt_zero _),by omega,Lib.hid ⟨by simp[World.ownsRow,pk,byteVs],Below.refl _ _⟩⟩
 case round=>
  obtain⟨q,rfl,HQ,hq9,HO⟩:=hrel
  obtain⟨i,hi⟩: ∃i,s+st*(q:Int)=i:=⟨_,rfl⟩
  by_cases hin:inR f st i
  ·rw[hi]
   have hrange:=ends_in HE.out q (by rw[hi];exact hin)
   have hqn:=ends_q HE.out q (by rw[hi];exact hin)
   rw[hi] at hrange
   obtain⟨p,rfl⟩: ∃p:Nat,i=p:=⟨i.toNat,by omega⟩
   have hp:p<t.size:=by omega
   have HIN:=Lib.hid hin
   have eg:(sgn (f-p)==sgn st)=true:=by rw[sgn_in hst.1];exact decide_eq_true hin
   have ew:wrap64 (f-p)=f-p:=by unfold wrap64;omega
   have ew2:wrap64 ((p:Int)+st)=(p:Int)+st:=by unfold wrap64;omega
   have hlt:(p:Int)<t.size:=by omega
   have HHI:=Lib.hid hi
   clear hi hin
   go_wp2_with (first
    |(at_builtin;refine print_append_cells (w0:=w) w.heap.size rfl _ _ 22 5 (.int .u8 0) 1 1 rfl Tryz.underlying22 byteInfoS rfl (by decide) (by decide) u10 q (byteVs (pk 0 t.data.toList s st q)) [.int .u8 _] rfl rfl rfl (by intro u hu;rw[List.mem_singleton] at hu;subst hu;rfl) HO.out.1 HO.out.2 HO.out.2.size (by omega) ?_;intro v1 w2 ho hb2 hg hat;have HO2:=Lib.hid (And.intro ho hb2);clear ho hb2 hg hat)
    |(go_at_call 285;(with_reducible refine(HS.out _ (by omega) _).mono ?_);rintro e w1 ⟨rfl,hw1⟩;have hw2:=hw1.symm;clear hw1;subst hw2))
   go_roundw
   case rel=>
    refine⟨q+1,?_,Lib.hid (fun j hj=>?_),by omega,Lib.hid ⟨?_,HO2.out.2⟩⟩
    ·rw[kth_succ,HHI.out]
    ·by_cases h9:j<q
     ·exact HQ.out j h9
     ·obtain rfl:j=q:=by omega
      rw[HHI.out];exact HIN.out
    ·have:=HO2.out.1
     rw[pk_succ,HHI.out,show((p:Nat):Int).toNat=p by omega,byte_at t p hp]
     unfold byteVs at this⊢
     rw[List.map_append]
     exact this
   case measure=>exact mes_step HE.out HIN.out
  ·rw[hi]
   have hir:=ends_out HE.out (by omega) q HQ.out
   rw[hi] at hir
   have eg:(sgn (f-i)==sgn st)=false:=by rw[sgn_in hst.1];exact decide_eq_false hin
   have ew:wrap64 (f-i)=f-i:=by unfold wrap64;omega
   have HIN:=Lib.hid hin
   have HHI:=Lib.hid hi
   have hcv:=conv_own (B:=w.heap.size) (w:=wr) (v:=u10) (l:=pk 0 t.data.toList s st q) (by rw[pk_len];exact HO.out.1) 142 Tryz.underlying142
   clear hin hi
   go_wp2_with (go_at_call 285;(with_reducible refine(HS.out _ (by omega) _).mono ?_);rintro e w1 ⟨rfl,hw1⟩;have hw2:=hw1.symm;clear hw1;subst hw2)
   go_ret
   exact⟨q,rfl,⟨HQ.out,by rw[HHI.out];exact HIN.out⟩,HO.out.2⟩
end Go.Proofs.YtkplnbjgkhmbcaaGreatDoor
