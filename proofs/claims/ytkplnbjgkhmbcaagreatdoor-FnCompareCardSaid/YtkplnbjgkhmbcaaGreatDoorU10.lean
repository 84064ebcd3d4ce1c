/- ImpI ImpJ ImpK ImpL ImpM ImpN ImpO ImpP -/
import Derived.Test.YtkplnbjgkhmbcaaGreatDoorU09
import Derived.Test.YtkplnbjgkhmbcaaGreatDoorU03
import Derived.Test.YtkplnbjgkhmbcaaGreatDoorU08
import Derived.LoopTactic
import Derived.Laws.MakeOwn
import Derived.OwnWalk
namespace Go.Proofs.YtkplnbjgkhmbcaaGreatDoor
open Go.RowKit Go.Shelf Go.Proofs.YtkplnbjgkhmbcaaGreatDoorW.PrintWords Go.Proofs.YtkplnbjgkhmbcaaGreatDoorW.PrintLast Go.Proofs.YtkplnbjgkhmbcaaGreatDoorW.PrintMore
set_option linter.unusedVariables false
set_option linter.unusedSimpArgs false
end Go.Proofs.YtkplnbjgkhmbcaaGreatDoor
namespace Go.Proofs.YtkplnbjgkhmbcaaGreatDoor
open Go.RowKit Go.Shelf Go.Proofs.YtkplnbjgkhmbcaaGreatDoorW.PrintWords Go.Proofs.YtkplnbjgkhmbcaaGreatDoorW.PrintLast Go.Proofs.YtkplnbjgkhmbcaaGreatDoorW.PrintMore Go.Proofs.YtkplnbjgkhmbcaaGreatDoor.PFnCompare Go.Proofs.YtkplnbjgkhmbcaaGreatDoor.PCmp Go.Proofs.YtkplnbjgkhmbcaaGreatDoor.PbytesOf
set_option linter.unusedVariables false
set_option linter.unusedSimpArgs false
theorem canon_flat {k b:Int} {t:ByteArray} {s:Sca} (hk:0≤k∧k≤9) (h2:k≠2) (hb:0≤b∧b<18446744073709551616) (hs:scaOf ⟨k,false,[],b,t,[]⟩=some s) (ht:k≠4→k≠5→t=⟨#[]⟩):Canon s ⟨k,false,[],b,t,[]⟩:=
 ⟨⟨fun h=>absurd h h2,hb,hk,⟨fun x hx=>(by cases hx),by simp⟩,by simp,fun _=>by simp⟩,rfl,hs,ht⟩
theorem canon_num_of {n:Bool} {l:List Int} {x:Int} (g:Good n l) (hv:val n l=x) (hl:l.length≤1000):Canon (.int x) ⟨2,n,l,0,⟨#[]⟩,[]⟩:=
 ⟨⟨fun _=>g,⟨by show(0:Int)≤0;decide,by show(0:Int)<18446744073709551616;decide⟩,⟨by show(0:Int)≤2;decide,by show(2:Int)≤9;decide⟩,⟨g.bytes,by show l.length≤_;omega⟩,by simp,fun _=>by simp⟩,rfl,by subst hv;rfl,fun _ _=>rfl⟩
theorem vInfo:(Tryz.prog.info? 26).map (fun i=>(i.zero,i.size,i.bytes))=some (some (.agg #[.int .i64 0, .bool false, .slice none 0 0, .int .u64 0, .string ⟨#[]⟩, .slice none 0 0]),6,88):=by kernel_rfl
end Go.Proofs.YtkplnbjgkhmbcaaGreatDoor
