/- NumDiv WordOps WordDiv WordDivB WordDivC NatDiv IntP NumGcd NumMulW NumRat -/
import Derived.Test.YtkplnbjgkhmbcaaGreatDoorU01
import Derived.Test.YtkplnbjgkhmbcaaGreatDoorU02
import Derived.Shelf.Bits.Mul64
import Derived.Shelf.Spec.BitsCarry
import Derived.RegionTactic
import Derived.Laws.OwnMore
import Derived.Deep.QuietTactic
import Derived.Laws.BitsAllLaws
namespace Go.Proofs.YtkplnbjgkhmbcaaGreatDoor
set_option linter.unusedVariables false
theorem half_le {u a y1 y0 q rh:Int} (hy0:0≤y0) (h:u=q*y1+rh) (hc:q*y0≤4294967296*rh+a):
 q*(y1*4294967296+y0)≤u*4294967296+a:=by
 have e:q*(y1*4294967296+y0)=q*y1*4294967296+q*y0:=by rw[Int.mul_add,Int.mul_assoc]
 rw[e,h];omega
theorem half_gt {u a y1 y0 q rh:Int} (h:u=q*y1+rh) (hc:4294967296*rh+a<q*y0):
 u*4294967296+a<q*(y1*4294967296+y0):=by
 have e:q*(y1*4294967296+y0)=q*y1*4294967296+q*y0:=by rw[Int.mul_add,Int.mul_assoc]
 rw[e,h];omega
theorem le_ediv {q x y:Int} (hy:0<y) (h:q*y≤x):q≤x/y:=(Int.le_ediv_iff_mul_le hy).2 h
theorem ediv_lt {q x y:Int} (hy:0<y) (h:x<q*y):x/y<q:=(Int.ediv_lt_iff_lt_mul hy).2 h
structure Half (u a y1 y0:Int) (q rh:Int):Prop where
 eq:u=q*y1+rh
 ge:(u*4294967296+a)/(y1*4294967296+y0)≤q
 q0:0≤q
 q1:q≤4294967297
 r0:0≤rh
structure HalfIn (u a y1 y0:Int):Prop where
 u0:0≤u
 u1:u<y1*4294967296+y0
 a0:0≤a
 a1:a<4294967296
 y10:2147483648≤y1
 y11:y1<4294967296
 y00:0≤y0
 y01:y0<4294967296
section
variable {u a y1 y0 q rh:Int}
theorem HalfIn.dig (h:HalfIn u a y1 y0):0≤(u*4294967296+a)/(y1*4294967296+y0)∧(u*4294967296+a)/(y1*4294967296+y0)<4294967296:=by
 have:=h.u0;have:=h.u1;have:=h.a0;have:=h.a1;have:=h.y10;have:=h.y00
 exact⟨Int.ediv_nonneg (by omega) (by omega),ediv_lt (by omega) (by omega)⟩
theorem Half.start (h:HalfIn u a y1 y0):Half u a y1 y0 (u/y1) (u-u/y1*y1)∧u-u/y1*y1<4294967296:=by
 have:=h.u0;have:=h.u1;have:=h.a0;have:=h.a1;have:=h.y10;have:=h.y00;have:=h.y01;have:=h.y11
 have hd:=Int.mul_ediv_add_emod u y1
 have hm:=Int.emod_nonneg u (b:=y1) (by omega)
 have hl:=Int.emod_lt_of_pos u (b:=y1) (by omega)
 have hq:=Int.ediv_nonneg (a:=u) (b:=y1) (by omega) (by omega)
 rw[Int.mul_comm] at hd
 have hq1:u/y1<4294967298:=ediv_lt (by omega) (by omega)
 refine⟨⟨by omega,?_,hq,by omega,by omega⟩,by omega⟩
 have:(u*4294967296+a)/(y1*4294967296+y0)<u/y1+1:=by
  refine ediv_lt (by omega) ?_
  have e:(u/y1+1)*(y1*4294967296+y0)=u/y1*y1*4294967296+y1*4294967296+(u/y1+1)*y0:=by
   rw[Int.mul_add,←Int.mul_assoc,Int.add_mul (u/y1) 1 y1];omega
  have:0≤(u/y1+1)*y0:=Int.mul_nonneg (by omega) h.y00
  rw[e];omega
 omega
theorem Half.down (h:HalfIn u a y1 y0) (s:Half u a y1 y0 q rh) (hc:4294967296≤q∨4294967296*rh+a<q*y0):Half u a y1 y0 (q-1) (rh+y1)∧q-1≤4294967296:=by
 have:=h.y10;have hd:=h.dig;have:=s.q1;have:=s.q0;have:=h.y00;have:=s.r0
 have e:q*y1+rh=(q-1)*y1+(rh+y1):=by rw[Int.sub_mul];omega
 have hg:(u*4294967296+a)/(y1*4294967296+y0)<q:=by
  rcases hc with hc|hc
  ·omega
  ·exact ediv_lt (by omega) (half_gt s.eq hc)
 exact⟨⟨by rw[←e];exact s.eq,by omega,by omega,by omega,by omega⟩,by omega⟩
theorem Half.done (h:HalfIn u a y1 y0) (s:Half u a y1 y0 q rh) (hc:q*y0≤4294967296*rh+a):q=(u*4294967296+a)/(y1*4294967296+y0):=by
 have:=h.y10;have:=h.y00
 have h2:=le_ediv (by omega) (half_le h.y00 s.eq hc)
 have:=s.ge
 omega
theorem Half.broke (h:HalfIn u a y1 y0) (s:Half u a y1 y0 q rh) (hq:q≤4294967296) (hc:4294967296≤rh):q=(u*4294967296+a)/(y1*4294967296+y0):=by
 refine s.done h ?_
 have h1:q*y0≤4294967296*y0:=Int.mul_le_mul_of_nonneg_right hq h.y00
 have:=h.y01;have:=h.a0
 omega
end
theorem div_eq {x y q r:Int} (h:x=q*y+r) (h0:0≤r) (h1:r<y):x/y=q∧x%y=r:=by
 have hy:0<y:=by omega
 have e:x/y=q:=by rw[h,Int.add_comm,Int.add_mul_ediv_right _ _ (by omega),Int.ediv_eq_zero_of_lt h0 h1];omega
 refine⟨e,?_⟩
 have:=Int.mul_ediv_add_emod x y
 rw[e,Int.mul_comm] at this;omega
theorem recip_guess {x1 x0 d v t:Int} (hd:0<d) (hdB:d≤18446744073709551616) (h1:0≤x1) (h1d:x1<d) (h0:0≤x0) (h0B:x0<18446744073709551616)
 (hv1:v*d≤340282366920938463463374607431768211455) (hv2:340282366920938463463374607431768211456≤v*d+d)
 (ht1:t*18446744073709551616≤x1*v+x0) (ht2:x1*v+x0<t*18446744073709551616+18446744073709551616):
 t*d≤x1*18446744073709551616+x0∧x1*18446744073709551616+x0<t*d+18446744073709551616+d:=by
 have e1:(x1*v+x0)*d=x1*(v*d)+x0*d:=by rw[Int.add_mul,Int.mul_assoc]
 have m1:x1*(v*d)≤x1*340282366920938463463374607431768211455:=Int.mul_le_mul_of_nonneg_left hv1 h1
 have m2:x1*(340282366920938463463374607431768211456-d)≤x1*(v*d):=Int.mul_le_mul_of_nonneg_left (by omega) h1
 rw[Int.mul_sub] at m2
 have m3:x0*d≤x0*18446744073709551616:=Int.mul_le_mul_of_nonneg_left hdB h0
 have k1:t*18446744073709551616*d≤(x1*v+x0)*d:=Int.mul_le_mul_of_nonneg_right ht1 (by omega)
 have k2:(x1*v+x0+1)*d≤(t*18446744073709551616+18446744073709551616)*d:=Int.mul_le_mul_of_nonneg_right (by omega) (by omega)
 have e2:t*18446744073709551616*d=t*d*18446744073709551616:=by rw[Int.mul_assoc,Int.mul_comm _ d,←Int.mul_assoc]
 rw[e2,e1] at k1
 rw[Int.add_mul,e1,Int.add_mul (t*_),e2] at k2
 have m4:x1*d≤d*d:=Int.mul_le_mul_of_nonneg_right (by omega) (by omega)
 have m5:d*d≤18446744073709551616*d:=Int.mul_le_mul_of_nonneg_right hdB (by omega)
 have m6:x0*(18446744073709551616-d)≤18446744073709551616*(18446744073709551616-d):=Int.mul_le_mul_of_nonneg_right (by omega) (by omega)
 rw[Int.mul_sub] at m6
 constructor<;>omega
end Go.Proofs.YtkplnbjgkhmbcaaGreatDoor
namespace Go.Proofs.YtkplnbjgkhmbcaaGreatDoor
open Go.RowKit Go.Shelf
set_option linter.unusedVariables false
set_option linter.unusedSimpArgs false
def Tryz.lays264_ren:Go.Shelf.Ren:=⟨fun|264=>254|n=>n,fun|46=>264|53=>23|n=>n,fun|n=>n⟩
theorem Tryz.lays264:Go.Proofs.Lays.n264 Tryz.prog Tryz.lays264_ren:={
 mixed:=by kernel_rfl
 f264:=Tryz.func254.trans (congrArg some (by kernel_rfl))
 t46:=Tryz.underlying264
 a46:=Tryz.isAgg264
 z46:=Tryz.sizeOf264
 v46:=Tryz.zeroValue264
 t53:=Tryz.underlying23
 a53:=Tryz.isAgg23
 z53:=Tryz.sizeOf23
 v53:=Tryz.zeroValue23
}
theorem mul64_c (x y:Int) (w:World) (hx:0≤x∧x<18446744073709551616) (hy:0≤y∧y<18446744073709551616):
 Calls Tryz.prog 254 #[.int .u64 x, .int .u64 y] w fun e w'=>e= .returned (.tuple #[.int .u64 (x*y/18446744073709551616), .int .u64 (x*y%18446744073709551616)])∧w'=w:=by
 obtain⟨X,rfl⟩:=Int.eq_ofNat_of_zero_le hx.1
 obtain⟨Y,rfl⟩:=Int.eq_ofNat_of_zero_le hy.1
 refine(Any.bits_Mul64 Tryz.lays264 X Y (by omega) (by omega) w).mono ?_
 rintro e w' ⟨rfl,rfl⟩
 exact⟨by simp,rfl⟩
theorem call_add64 (x y c:Int) (hx:0≤x) (hy:0≤y) (hc0:0≤c) (hc:c≤1) (w:World):
 (callFunc 236 #[.int .u64 x, .int .u64 y, .int .u64 c]).run Tryz.prog w= .ok (.value (.tuple #[.int .u64 ((x+y+c)%18446744073709551616), .int .u64 ((x+y+c)/18446744073709551616)])) w:=by
 rw[run_callFunc_extern Tryz.func236 (by kernel_rfl) (by kernel_rfl) (by kernel_rfl) (e:=add64Entry) (by kernel_rfl),run_add64 x y c hx hy hc0 hc]
 rfl
theorem call_sub64 (x y b:Int) (hx:0≤x) (hy:0≤y∧y<18446744073709551616) (hb0:0≤b) (hb:b≤1) (w:World):
 (callFunc 256 #[.int .u64 x, .int .u64 y, .int .u64 b]).run Tryz.prog w= .ok (.value (.tuple #[.int .u64 ((x+18446744073709551616-y-b)%18446744073709551616), .int .u64 (if x<y+b then 1 else 0)])) w:=by
 obtain⟨X,rfl⟩:=Int.eq_ofNat_of_zero_le hx
 obtain⟨Y,rfl⟩:=Int.eq_ofNat_of_zero_le hy.1
 obtain⟨C,rfl⟩:=Int.eq_ofNat_of_zero_le hb0
 rw[run_callFunc_extern Tryz.func256 (by kernel_rfl) (by kernel_rfl) (by kernel_rfl) (e:=sub64Entry) (by kernel_rfl),run_sub64 X Y C (by omega)]
 simp only[Result.andThen]
 have e1:((X+18446744073709551616-Y-C:Nat):Int)=(X:Int)+18446744073709551616-Y-C:=by omega
 by_cases h:X<Y+C
 ·rw[if_pos h,if_pos (by omega)];simp only[Int.natCast_emod,e1];rfl
 ·rw[if_neg h,if_neg (by omega)];simp only[Int.natCast_emod,e1];rfl
set_option maxRecDepth 100000 in
theorem mul_w (x y:Int) (w:World) (hx:0≤x∧x<18446744073709551616) (hy:0≤y∧y<18446744073709551616):
 Calls Tryz.prog 249 #[.int .u64 x, .int .u64 y] w fun e w'=>e= .returned (.tuple #[.int .u64 (x*y/18446744073709551616), .int .u64 (x*y%18446744073709551616)])∧w'=w:=by
 have H:=Lib.hid (And.intro hx hy)
 clear hx hy
 go_enter Tryz.func249,Tryz.ntmps249
 go_wp2_with (go_at_call 254;refine(mul64_c _ _ _ H.out.1 H.out.2).mono ?_;rintro e w1 ⟨rfl,rfl⟩)
 go_ret2
 exact⟨rfl,rfl⟩
set_option maxRecDepth 100000 in
theorem add_w (x y c:Int) (w:World) (hx:0≤x) (hy:0≤y) (hc0:0≤c) (hc:c≤1):
 Calls Tryz.prog 218 #[.int .u64 x, .int .u64 y, .int .u64 c] w fun e w'=>e= .returned (.tuple #[.int .u64 ((x+y+c)%18446744073709551616), .int .u64 ((x+y+c)/18446744073709551616)])∧w'=w:=by
 have h:=call_add64 x y c hx hy hc0 hc
 clear hx hy hc0 hc
 go_enter Tryz.func218,Tryz.ntmps218
 go_wp2
 go_ret2
 exact⟨rfl,rfl⟩
set_option maxRecDepth 100000 in
theorem sub_w (x y b:Int) (w:World) (hx:0≤x) (hy:0≤y∧y<18446744073709551616) (hb0:0≤b) (hb:b≤1):
 Calls Tryz.prog 251 #[.int .u64 x, .int .u64 y, .int .u64 b] w fun e w'=>e= .returned (.tuple #[.int .u64 ((x+18446744073709551616-y-b)%18446744073709551616), .int .u64 (if x<y+b then 1 else 0)])∧w'=w:=by
 have h:=call_sub64 x y b hx hy hb0 hb
 generalize (x+18446744073709551616-y-b)%18446744073709551616=r at h⊢
 generalize (if x<y+b then(1:Int) else 0)=t at h⊢
 clear hx hy hb0 hb
 go_enter Tryz.func251,Tryz.ntmps251
 go_wp2
 go_ret2
 exact⟨rfl,rfl⟩
set_option maxRecDepth 100000 in
theorem lz_w (x:Int) (w:World) (h0:0≤x) (h1:x≤18446744073709551615):
 Calls Tryz.prog 237 #[.int .u64 x] w fun e w'=>e= .returned (.int .i64 (64-(Lib.bitLen x.toNat:Int)))∧w'=w:=by
 have l:=Any.bitLen_le64 x h0 h1
 have e8:wrap64 (64-(Lib.bitLen x.toNat:Int))=64-(Lib.bitLen x.toNat:Int):=by unfold wrap64;omega
 have HL:=Lib.hid (fun w=>bitsLen x w h0 h1)
 generalize (Lib.bitLen x.toNat:Int)=n at*
 clear l h0 h1
 go_enter Tryz.func237,Tryz.ntmps237
 go_wp2_with (go_at_call 228;refine(HL.out _).mono ?_;rintro e w1 ⟨rfl,rfl⟩)
 go_ret
 exact⟨by rw[e8];rfl,rfl⟩
set_option maxRecDepth 100000 in
theorem lz64_w (x:Int) (w:World) (h0:0≤x) (h1:x≤18446744073709551615):
 Calls Tryz.prog 257 #[.int .u64 x] w fun e w'=>e= .returned (.int .i64 (64-(Lib.bitLen x.toNat:Int)))∧w'=w:=by
 have l:=Any.bitLen_le64 x h0 h1
 have e8:wrap64 (64-(Lib.bitLen x.toNat:Int))=64-(Lib.bitLen x.toNat:Int):=by unfold wrap64;omega
 have HL:=Lib.hid (fun w=>Any.bits_Len64 Tryz.lays129 x w h0 h1)
 generalize (Lib.bitLen x.toNat:Int)=n at*
 clear l h0 h1
 go_enter Tryz.func257,Tryz.ntmps257
 go_wp2_with (go_at_call 248;refine(HL.out _).mono ?_;rintro e w1 ⟨rfl,rfl⟩)
 go_ret
 exact⟨by rw[e8];rfl,rfl⟩
set_option maxRecDepth 100000 in
theorem nlz_w (x:Int) (w:World) (h0:0≤x) (h1:x≤18446744073709551615):
 Calls Tryz.prog 220 #[.int .u64 x] w fun e w'=>e= .returned (.int .u64 (64-(Lib.bitLen x.toNat:Int)))∧w'=w:=by
 have l:=Any.bitLen_le64 x h0 h1
 have e8:IntKind.u64.wrap (64-(Lib.bitLen x.toNat:Int))=64-(Lib.bitLen x.toNat:Int):=by rw[IntKind.wrap_u64];omega
 have HL:=Lib.hid (fun w=>lz_w x w h0 h1)
 generalize (Lib.bitLen x.toNat:Int)=n at*
 clear l h0 h1
 go_enter Tryz.func220,Tryz.ntmps220
 go_wp2_with (go_at_call 237;refine(HL.out _).mono ?_;rintro e w1 ⟨rfl,rfl⟩)
 go_ret
 exact⟨by first|rw[e8]|rfl,rfl⟩
set_option maxRecDepth 100000 in
theorem mulAddWWW_c (x y c:Int) (w:World) (hx:0≤x∧x<18446744073709551616) (hy:0≤y∧y<18446744073709551616) (hc:0≤c∧c<18446744073709551616):
 Calls Tryz.prog 229 #[.int .u64 x, .int .u64 y, .int .u64 c] w fun e w'=>e= .returned (.tuple #[.int .u64 ((x*y+c)/18446744073709551616), .int .u64 ((x*y+c)%18446744073709551616)])∧w'=w:=by
 have hm:x*y≤18446744073709551615*18446744073709551615:=by
  refine Int.le_trans (Int.mul_le_mul_of_nonneg_right (c:=y) (by omega:x≤18446744073709551615) hy.1) ?_
  omega
 have hm0:0≤x*y:=Int.mul_nonneg hx.1 hy.1
 have H:=Lib.hid (And.intro hx hy)
 generalize he:x*y=P at*
 have e1:IntKind.u64.wrap (P/18446744073709551616+(P%18446744073709551616+c)/18446744073709551616)=(P+c)/18446744073709551616:=by rw[IntKind.wrap_u64];omega
 have e2:(P%18446744073709551616+c)%18446744073709551616=(P+c)%18446744073709551616:=by omega
 have HB:=Lib.hid (show 0≤P%18446744073709551616∧0≤c by omega)
 have HE:=Lib.hid he
 clear hx hy hc hm hm0 he
 go_enter Tryz.func229,Tryz.ntmps229
 go_wp2_with (first
  |(go_at_call 249;refine(mul_w _ _ _ H.out.1 H.out.2).mono ?_;rintro e w1 ⟨rfl,rfl⟩;rw[HE.out])
  |(go_at_call 218;refine(add_w _ _ _ _ HB.out.1 HB.out.2 (by decide) (by decide)).mono ?_;rintro e w1 ⟨rfl,rfl⟩))
 go_ret2
 exact⟨by first|rw[e1,e2]|rfl|simp[e1,e2],rfl⟩
theorem wrap_same (x:Int) (h0:0≤x) (h1:x<18446744073709551616):IntKind.u64.wrap x=x:=by rw[IntKind.wrap_u64];omega
theorem or_zero64 (x:Int) (h0:0≤x) (h1:x<18446744073709551616):Go.bits .or .u64 x 0=x:=by
 rw[u64_or x 0 h0 h1 (by omega) (by omega)]
 simp;omega
theorem half_rest {u a y P R:Int} (hu:0≤u) (ha:0≤a) (h:u*4294967296+a=P+R) (h0:0≤R) (h1:R<18446744073709551616):
 IntKind.u64.wrap (IntKind.u64.wrap (IntKind.u64.wrap (u*4294967296)+a)-IntKind.u64.wrap P)=R:=by
 simp only[IntKind.wrap_u64];omega
theorem tdiv_w (a b:Int) (ha:0≤a) (h1:a<18446744073709551616) (hb:0<b):IntKind.u64.wrap (a.tdiv b)=a/b:=by
 rw[Int.tdiv_eq_ediv_of_nonneg ha]
 have h0:=Int.ediv_nonneg (a:=a) (b:=b) ha (by omega)
 have hle:a/b≤a:=Int.ediv_le_self b ha
 exact wrap_same _ h0 (by omega)
structure HalfW (a y1 y0 q rh:Int):Prop where
 k1:IntKind.u64.wrap (4294967296*rh)=4294967296*rh
 k2:IntKind.u64.wrap (4294967296*rh+a)=4294967296*rh+a
 k3:0<q→IntKind.u64.wrap (q-1)=q-1
 k4:IntKind.u64.wrap (rh+y1)=rh+y1
theorem half_w {u a y1 y0 q rh:Int} (h:HalfIn u a y1 y0) (s:Half u a y1 y0 q rh) (hr:rh<4294967296):HalfW a y1 y0 q rh:=by
 have:=h.a0;have:=h.a1;have:=h.y10;have:=h.y11;have:=s.r0;have:=s.q1;have:=s.q0
 exact⟨wrap_same _ (by omega) (by omega),wrap_same _ (by omega) (by omega),fun hq=>wrap_same _ (by omega) (by omega),wrap_same _ (by omega) (by omega)⟩
theorem half_p {u a y1 y0 q rh:Int} (h:HalfIn u a y1 y0) (s:Half u a y1 y0 q rh) (hq:q<4294967296):IntKind.u64.wrap (q*y0)=q*y0:=by
 have h1:q*y0≤4294967296*y0:=Int.mul_le_mul_of_nonneg_right (by omega) h.y00
 have:=h.y01
 exact wrap_same _ (Int.mul_nonneg s.q0 h.y00) (by omega)
theorem two_digits {h l1 l0 y q1 r1 q0 r0:Int} (e1:h*4294967296+l1=q1*y+r1) (e0:r1*4294967296+l0=q0*y+r0) (h0:0≤r0) (hy:r0<y):
 (h*18446744073709551616+(l1*4294967296+l0))/y=q1*4294967296+q0∧(h*18446744073709551616+(l1*4294967296+l0))%y=r0:=by
 refine div_eq ?_ h0 hy
 have e:(q1*4294967296+q0)*y=q1*y*4294967296+q0*y:=by rw[Int.add_mul,Int.mul_right_comm]
 rw[e];omega
set_option maxRecDepth 100000 in
set_option maxHeartbeats 4000000 in
theorem bitsDiv64_c (h l y:Int) (w:World) (hh:0<h) (hy:h<y) (hy1:9223372036854775808≤y) (hy2:y<18446744073709551616) (hl:0≤l∧l<18446744073709551616):
    Calls Tryz.prog 252 #[.int .u64 h, .int .u64 l, .int .u64 y] w fun e w'=>e= .returned (.tuple #[.int .u64 ((h*18446744073709551616+l)/y), .int .u64 ((h*18446744073709551616+l)%y)])∧w'=w:=by
  have b0:(y==0)=false:=by simp;omega
  have b1: ¬y≤h:=by omega
  have b2:(h==0)=false:=by simp;omega
  have hbl:(64-(Lib.bitLen y.toNat:Int))=0:=by
    rw[bitLen_eq 63 y.toNat (by omega) (by omega) (by omega)];rfl
  have HZ:Hid (∀w,Calls Tryz.prog 257 #[.int .u64 y] w fun e w'=>e= .returned (.int .i64 0)∧w'=w):=fun w=>by
    have:=lz64_w y w (by omega) (by omega);rw[hbl] at this;exact this
  obtain⟨y1,hY1⟩: ∃y1,y/4294967296=y1:=⟨_,rfl⟩
  obtain⟨y0,hY0⟩: ∃y0,y%4294967296=y0:=⟨_,rfl⟩
  obtain⟨l1,hL1⟩: ∃l1,l/4294967296=l1:=⟨_,rfl⟩
  obtain⟨l0,hL0⟩: ∃l0,l%4294967296=l0:=⟨_,rfl⟩
  have aY:Go.bits .and .u64 y 4294967295=y0:=by
    obtain⟨Y,rfl⟩:=Int.eq_ofNat_of_zero_le (a:=y) (by omega)
    rw[Mul64.maskN Y (by omega)];omega
  have aL:Go.bits .and .u64 l 4294967295=l0:=by
    obtain⟨Y,rfl⟩:=Int.eq_ofNat_of_zero_le (a:=l) (by omega)
    rw[Mul64.maskN Y (by omega)];omega
  have wy:=wrap_same y (by omega) hy2
  have wh:=wrap_same h (by omega) (by omega)
  have wl:=wrap_same l hl.1 hl.2
  have b3:2147483648≤y1:=by omega
  have hl64:l/18446744073709551616=0:=by omega
  have ho:=or_zero64 h (by omega) (by omega)
  have HI1:Hid (HalfIn h l1 y1 y0):=⟨by omega,by omega,by omega,by omega,by omega,by omega,by omega,by omega⟩
  have ht:=tdiv_w h y1 (by omega) (by omega) (by omega)
  have HS:=Lib.hid (Half.start HI1.out)
  have eY:y1*4294967296+y0=y:=by omega
  have eL:l=l1*4294967296+l0:=by omega
  have k1:IntKind.u64.wrap (h/y1*y1)=h/y1*y1:=by
    have:=HS.out.1.r0;have:=Int.mul_nonneg HS.out.1.q0 (show 0≤y1 by omega)
    exact wrap_same _ (by omega) (by omega)
  have k2:IntKind.u64.wrap (h-h/y1*y1)=h-h/y1*y1:=by
    have:=HS.out.1.r0;have:=HS.out.2
    exact wrap_same _ (by omega) (by omega)
  generalize h/y1=qs at ht HS k1 k2
  obtain⟨rs,hrs⟩: ∃rs,h-qs*y1=rs:=⟨_,rfl⟩
  replace k2:=k2.trans hrs
  rw[hrs] at HS
  have hE1:=Int.mul_ediv_add_emod (h*4294967296+l1) y
  have hR1:=Int.emod_nonneg (h*4294967296+l1) (b:=y) (by omega)
  have hR2:=Int.emod_lt_of_pos (h*4294967296+l1) (b:=y) (by omega)
  have hDg:=HI1.out.dig
  rw[eY] at hDg
  obtain⟨Q1,hQ1⟩: ∃Q1,(h*4294967296+l1)/y=Q1:=⟨_,rfl⟩
  obtain⟨R1,hR⟩: ∃R1,(h*4294967296+l1)%y=R1:=⟨_,rfl⟩
  rw[hQ1,Int.mul_comm] at hE1
  rw[hQ1] at hDg
  rw[hR] at hE1 hR1 hR2
  have hu2:=half_rest (u:=h) (a:=l1) (y:=y) (P:=Q1*y) (R:=R1) (by omega) (by omega) (by omega) hR1 (by omega)
  have HI2:Hid (HalfIn R1 l0 y1 y0):=⟨by omega,by omega,by omega,by omega,by omega,by omega,by omega,by omega⟩
  have ht2:=tdiv_w R1 y1 (by omega) (by omega) (by omega)
  have HS2:=Lib.hid (Half.start HI2.out)
  have v1:IntKind.u64.wrap (R1/y1*y1)=R1/y1*y1:=by
    have:=HS2.out.1.r0;have:=Int.mul_nonneg HS2.out.1.q0 (show 0≤y1 by omega)
    exact wrap_same _ (by omega) (by omega)
  have v2:IntKind.u64.wrap (R1-R1/y1*y1)=R1-R1/y1*y1:=by
    have:=HS2.out.1.r0;have:=HS2.out.2
    exact wrap_same _ (by omega) (by omega)
  generalize R1/y1=qs2 at ht2 HS2 v1 v2
  obtain⟨rs2,hrs2⟩: ∃rs,R1-qs2*y1=rs:=⟨_,rfl⟩
  replace v2:=v2.trans hrs2
  rw[hrs2] at HS2
  have hE2:=Int.mul_ediv_add_emod (R1*4294967296+l0) y
  have hR3:=Int.emod_nonneg (R1*4294967296+l0) (b:=y) (by omega)
  have hR4:=Int.emod_lt_of_pos (R1*4294967296+l0) (b:=y) (by omega)
  have hDg2:=HI2.out.dig
  rw[eY] at hDg2
  obtain⟨Q0,hQ0⟩: ∃Q0,(R1*4294967296+l0)/y=Q0:=⟨_,rfl⟩
  obtain⟨R0,hRR⟩: ∃R0,(R1*4294967296+l0)%y=R0:=⟨_,rfl⟩
  rw[hQ0,Int.mul_comm] at hE2
  rw[hQ0] at hDg2
  rw[hRR] at hE2 hR3 hR4
  have hu3:=half_rest (u:=R1) (a:=l0) (y:=y) (P:=Q0*y) (R:=R0) (by omega) (by omega) (by omega) hR3 (by omega)
  have hlast:IntKind.u64.wrap (IntKind.u64.wrap (Q1*4294967296)+Q0)=Q1*4294967296+Q0:=by
    rw[wrap_same (Q1*4294967296) (by omega) (by omega)];exact wrap_same _ (by omega) (by omega)
  have wQ1:=wrap_same Q1 (by omega) (by omega)
  have wQ0:=wrap_same Q0 (by omega) (by omega)
  have wR:=wrap_same R0 hR3 (by omega)
  obtain⟨f1,f2⟩:=two_digits (y:=y) (h:=h) (l1:=l1) (l0:=l0) hE1.symm hE2.symm hR3 hR4
  rw[←eL] at f1 f2
  rw[f1,f2]
  have HQ1:Hid ((h*4294967296+l1)/(y1*4294967296+y0)=Q1):=by rw[eY];exact hQ1
  have HQ0:Hid ((R1*4294967296+l0)/(y1*4294967296+y0)=Q0):=by rw[eY];exact hQ0
  clear f1 f2 hE1 hE2 hQ1 hQ0 hR hRR hDg hDg2 hR1 hR2 hR3 hR4 eL hh hy1 hy2 hl hbl hL0 hY0 eY hrs hrs2
  go_enter Tryz.func252,Tryz.ntmps252
  go_wp2_with (go_at_call 257;refine(HZ.out _).mono ?_;rintro e w1 ⟨rfl,rfl⟩)
  go_loop [15,16] (fun a b=> ∃q rh,a= .int .u64 q∧b= .int .u64 rh∧Hid (Half h l1 y1 y0 q rh∧rh<4294967296)) (fun a b=>(intOf a).toNat)
  case atStart=>exact⟨_,_,rfl,rfl,HS.out⟩
  case round=>
    obtain⟨q,rh,rfl,rfl,hs⟩:=hrel
    obtain⟨ha,hb,hd,he⟩:=half_w HI1.out hs.out.1 hs.out.2
    by_cases c1:4294967296≤q
    · have hd:=hd (by omega)
      have HD:=Lib.hid (Half.down HI1.out hs.out.1 (.inl c1))
      by_cases c3:4294967296≤rh+y1
      · have hQ:=(Half.broke HI1.out HD.out.1 HD.out.2 c3).trans HQ1.out
        go_wp2
        clear HD hs ha hb hd he c1 c3
        go_loop [16,18] (fun b a=> ∃q rh,a= .int .u64 q∧b= .int .u64 rh∧Hid (Half R1 l0 y1 y0 q rh∧rh<4294967296)) (fun b a=>(intOf a).toNat)
        case atStart=>exact⟨_,_,rfl,rfl,HS2.out⟩
        case round=>
          obtain⟨p,rp,rfl,rfl,hs2⟩:=hrel
          obtain⟨ha,hb,hd,he⟩:=half_w HI2.out hs2.out.1 hs2.out.2
          by_cases c1:4294967296≤p
          · have hd:=hd (by omega)
            have HD:=Lib.hid (Half.down HI2.out hs2.out.1 (.inl c1))
            by_cases c3:4294967296≤rp+y1
            · have hQ:=(Half.broke HI2.out HD.out.1 HD.out.2 c3).trans HQ0.out
              go_wp2
              clear HD hs2 ha hb hd he c1 c3
              go_ret2
              exact⟨rfl,rfl⟩
            · go_wp2
              go_round
              case rel=>exact⟨_,_,rfl,rfl,HD.out.1,by omega⟩
              case measure=>simp[intOf];omega
          · have hp:=half_p HI2.out hs2.out.1 (by omega)
            by_cases c2:4294967296*rp+l0<p*y0
            · have hq:0<p:=by
                have:=Half.down HI2.out hs2.out.1 (.inr c2)
                have:=this.1.q0;omega
              have hd:=hd hq
              have HD:=Lib.hid (Half.down HI2.out hs2.out.1 (.inr c2))
              by_cases c3:4294967296≤rp+y1
              · have hQ:=(Half.broke HI2.out HD.out.1 HD.out.2 c3).trans HQ0.out
                go_wp2
                clear HD hs2 ha hb hd he c1 c2 c3 hq hp
                go_ret2
                exact⟨rfl,rfl⟩
              · go_wp2
                go_round
                case rel=>exact⟨_,_,rfl,rfl,HD.out.1,by omega⟩
                case measure=>simp[intOf];omega
            · have hQ:=((Half.done HI2.out hs2.out.1 (by omega)).trans HQ0.out).symm
              subst hQ
              go_wp2
              clear hs2 ha hb hd he c1 c2 hp
              go_ret2
              exact⟨rfl,rfl⟩
      · go_wp2
        go_round
        case rel=>exact⟨_,_,rfl,rfl,HD.out.1,by omega⟩
        case measure=>simp[intOf];omega
    · have hp:=half_p HI1.out hs.out.1 (by omega)
      by_cases c2:4294967296*rh+l1<q*y0
      · have hq:0<q:=by
          have:=Half.down HI1.out hs.out.1 (.inr c2)
          have:=this.1.q0;omega
        have hd:=hd hq
        have HD:=Lib.hid (Half.down HI1.out hs.out.1 (.inr c2))
        by_cases c3:4294967296≤rh+y1
        · have hQ:=(Half.broke HI1.out HD.out.1 HD.out.2 c3).trans HQ1.out
          go_wp2
          clear HD hs ha hb hd he c1 c2 c3 hq hp
          go_loop [16,18] (fun b a=> ∃q rh,a= .int .u64 q∧b= .int .u64 rh∧Hid (Half R1 l0 y1 y0 q rh∧rh<4294967296)) (fun b a=>(intOf a).toNat)
          case atStart=>exact⟨_,_,rfl,rfl,HS2.out⟩
          case round=>
            obtain⟨p,rp,rfl,rfl,hs2⟩:=hrel
            obtain⟨ha,hb,hd,he⟩:=half_w HI2.out hs2.out.1 hs2.out.2
            by_cases c1:4294967296≤p
            · have hd:=hd (by omega)
              have HD:=Lib.hid (Half.down HI2.out hs2.out.1 (.inl c1))
              by_cases c3:4294967296≤rp+y1
              · have hQ:=(Half.broke HI2.out HD.out.1 HD.out.2 c3).trans HQ0.out
                go_wp2
                clear HD hs2 ha hb hd he c1 c3
                go_ret2
                exact⟨rfl,rfl⟩
              · go_wp2
                go_round
                case rel=>exact⟨_,_,rfl,rfl,HD.out.1,by omega⟩
                case measure=>simp[intOf];omega
            · have hp:=half_p HI2.out hs2.out.1 (by omega)
              by_cases c2:4294967296*rp+l0<p*y0
              · have hq:0<p:=by
                  have:=Half.down HI2.out hs2.out.1 (.inr c2)
                  have:=this.1.q0;omega
                have hd:=hd hq
                have HD:=Lib.hid (Half.down HI2.out hs2.out.1 (.inr c2))
                by_cases c3:4294967296≤rp+y1
                · have hQ:=(Half.broke HI2.out HD.out.1 HD.out.2 c3).trans HQ0.out
                  go_wp2
                  clear HD hs2 ha hb hd he c1 c2 c3 hq hp
                  go_ret2
                  exact⟨rfl,rfl⟩
                · go_wp2
                  go_round
                  case rel=>exact⟨_,_,rfl,rfl,HD.out.1,by omega⟩
                  case measure=>simp[intOf];omega
              · have hQ:=((Half.done HI2.out hs2.out.1 (by omega)).trans HQ0.out).symm
                subst hQ
                go_wp2
                clear hs2 ha hb hd he c1 c2 hp
                go_ret2
                exact⟨rfl,rfl⟩
        · go_wp2
          go_round
          case rel=>exact⟨_,_,rfl,rfl,HD.out.1,by omega⟩
          case measure=>simp[intOf];omega
      · have hQ:=((Half.done HI1.out hs.out.1 (by omega)).trans HQ1.out).symm
        subst hQ
        go_wp2
        clear hs ha hb hd he c1 c2 hp
        go_loop [16,18] (fun b a=> ∃q rh,a= .int .u64 q∧b= .int .u64 rh∧Hid (Half R1 l0 y1 y0 q rh∧rh<4294967296)) (fun b a=>(intOf a).toNat)
        case atStart=>exact⟨_,_,rfl,rfl,HS2.out⟩
        case round=>
          obtain⟨p,rp,rfl,rfl,hs2⟩:=hrel
          obtain⟨ha,hb,hd,he⟩:=half_w HI2.out hs2.out.1 hs2.out.2
          by_cases c1:4294967296≤p
          · have hd:=hd (by omega)
            have HD:=Lib.hid (Half.down HI2.out hs2.out.1 (.inl c1))
            by_cases c3:4294967296≤rp+y1
            · have hQ:=(Half.broke HI2.out HD.out.1 HD.out.2 c3).trans HQ0.out
              go_wp2
              clear HD hs2 ha hb hd he c1 c3
              go_ret2
              exact⟨rfl,rfl⟩
            · go_wp2
              go_round
              case rel=>exact⟨_,_,rfl,rfl,HD.out.1,by omega⟩
              case measure=>simp[intOf];omega
          · have hp:=half_p HI2.out hs2.out.1 (by omega)
            by_cases c2:4294967296*rp+l0<p*y0
            · have hq:0<p:=by
                have:=Half.down HI2.out hs2.out.1 (.inr c2)
                have:=this.1.q0;omega
              have hd:=hd hq
              have HD:=Lib.hid (Half.down HI2.out hs2.out.1 (.inr c2))
              by_cases c3:4294967296≤rp+y1
              · have hQ:=(Half.broke HI2.out HD.out.1 HD.out.2 c3).trans HQ0.out
                go_wp2
                clear HD hs2 ha hb hd he c1 c2 c3 hq hp
                go_ret2
                exact⟨rfl,rfl⟩
              · go_wp2
                go_round
                case rel=>exact⟨_,_,rfl,rfl,HD.out.1,by omega⟩
                case measure=>simp[intOf];omega
            · have hQ:=((Half.done HI2.out hs2.out.1 (by omega)).trans HQ0.out).symm
              subst hQ
              go_wp2
              clear hs2 ha hb hd he c1 c2 hp
              go_ret2
              exact⟨rfl,rfl⟩
set_option maxRecDepth 100000 in
theorem bitsDiv_c (h l y:Int) (w:World) (hh:0<h) (hy:h<y) (hy1:9223372036854775808≤y) (hy2:y<18446744073709551616) (hl:0≤l∧l<18446744073709551616):
 Calls Tryz.prog 238 #[.int .u64 h, .int .u64 l, .int .u64 y] w fun e w'=>e= .returned (.tuple #[.int .u64 ((h*18446744073709551616+l)/y), .int .u64 ((h*18446744073709551616+l)%y)])∧w'=w:=by
 have HC:=Lib.hid (fun w=>bitsDiv64_c h l y w hh hy hy1 hy2 hl)
 generalize (h*18446744073709551616+l)/y=q at HC⊢
 generalize (h*18446744073709551616+l)%y=r at HC⊢
 clear hh hy hy1 hy2 hl
 go_enter Tryz.func238,Tryz.ntmps238
 go_wp2_with (go_at_call 252;refine(HC.out _).mono ?_;rintro e w1 ⟨rfl,rfl⟩)
 go_ret2
 exact⟨rfl,rfl⟩
theorem xor_max (U:Int) (h0:0≤U) (h1:U<18446744073709551616):Go.bits .xor .u64 IntKind.u64.max U=18446744073709551615-U:=by
 obtain⟨u,rfl⟩:=Int.eq_ofNat_of_zero_le h0
 have e:IntKind.u64.max=((18446744073709551615:Nat):Int):=by decide
 rw[e,u64_xor_nat _ _ (by omega) (by omega)]
 have h:=congrArg BitVec.toNat (BitVec.not_def (x:=BitVec.ofNat 64 u))
 rw[BitVec.toNat_not,BitVec.toNat_xor,BitVec.toNat_allOnes,BitVec.toNat_ofNat,Nat.mod_eq_of_lt (by omega:u<2^64)] at h
 have:(18446744073709551615:Nat)^^^u=18446744073709551615-u:=by
  have h2:(2^64-1:Nat)=18446744073709551615:=by decide
  rw[←h2];exact h.symm
 omega
structure Nrm (y:Int) (s:Nat):Prop where
 s1:0<s
 s2:s<64
 lo:9223372036854775808≤y*2^s
 hi:y*2^s<18446744073709551615
theorem nrm_of (y:Int) (h0:0<y) (h1:y<9223372036854775808): ∃s:Nat,Nrm y s∧64-(Lib.bitLen y.toNat:Int)=s:=by
 obtain⟨Y,rfl⟩:=Int.eq_ofNat_of_zero_le (a:=y) (by omega)
 obtain⟨k,hk1,hk2⟩: ∃k,2^k≤Y∧Y<2^(k+1):=⟨Y.log2,Nat.log2_self_le (by omega),Nat.lt_log2_self⟩
 have hk:k<63:=by
  rcases Nat.lt_or_ge k 63 with h|h
  ·exact h
  ·have:(2:Nat)^63≤2^k:=Nat.pow_le_pow_right (by omega) h
   omega
 have e1:(2:Nat)^k*2^(63-k)=9223372036854775808:=by rw[←Nat.pow_add,show k+(63-k)=63 from by omega]
 have e2:(2:Nat)^(k+1)*2^(63-k)=18446744073709551616:=by rw[←Nat.pow_add,show k+1+(63-k)=64 from by omega]
 have m1:9223372036854775808≤Y*2^(63-k):=e1▸Nat.mul_le_mul_right _ hk1
 have m2:Y*2^(63-k)<18446744073709551616:=e2▸Nat.mul_lt_mul_of_pos_right hk2 (Nat.two_pow_pos _)
 have m3:Y*2^(63-k)=2*(Y*2^(62-k)):=by
  rw[show 63-k=(62-k)+1 from by omega,Nat.pow_succ];rw[←Nat.mul_assoc];omega
 have c:((Y:Int))*2^(63-k)=((Y*2^(63-k):Nat):Int):=by simp
 refine⟨63-k,⟨by omega,by omega,by rw[c];omega,by rw[c];omega⟩,?_⟩
 rw[Int.toNat_natCast,bitLen_eq k Y hk1 hk2 (by omega)];omega
set_option maxRecDepth 100000 in
theorem recip_c (y:Int) (s:Nat) (w:World) (h0:0<y) (h1:y<9223372036854775808) (hn:Nrm y s) (hs:64-(Lib.bitLen y.toNat:Int)=s):
 Calls Tryz.prog 239 #[.int .u64 y] w fun e w'=>e= .returned (.int .u64 (340282366920938463463374607431768211455/(y*2^s)-18446744073709551616))∧w'=w:=by
 have HN:=Lib.hid (fun w=>nlz_w y w (by omega) (by omega))
 rw[hs] at HN
 have hlo:=hn.lo
 have hhi:=hn.hi
 have hs2:=hn.s2
 clear hn hs
 obtain⟨U,hU⟩: ∃U:Int,y*2^s=U:=⟨_,rfl⟩
 rw[hU] at hlo hhi⊢
 have e1:IntKind.u64.wrap (y*2^s)=U:=by rw[hU];exact wrap_same U (by omega) (by omega)
 have e2:=xor_max U (by omega) (by omega)
 have HC:=Lib.hid (fun w=>bitsDiv_c (18446744073709551615-U) 18446744073709551615 U w (by omega) (by omega) (by omega) (by omega) (by omega))
 have e3:((18446744073709551615-U)*18446744073709551616+18446744073709551615)/U=340282366920938463463374607431768211455/U-18446744073709551616:=by
  have:=Int.add_mul_ediv_right 340282366920938463463374607431768211455 (-18446744073709551616) (show U≠0 by omega)
  rw[Int.neg_mul] at this
  rw[←Int.sub_eq_add_neg,←Int.sub_eq_add_neg] at this
  rw[←this];congr 1;omega
 rw[e3] at HC
 generalize ((18446744073709551615-U)*18446744073709551616+18446744073709551615)%U=rr at HC
 generalize 340282366920938463463374607431768211455/U-18446744073709551616=m at HC⊢
 generalize 18446744073709551615-U=V at HC e2
 clear e3 hU hlo hhi
 go_enter Tryz.func239,Tryz.ntmps239
 go_wp2_with (first|(go_at_call 220;refine(HN.out _).mono ?_;rintro e w1 ⟨rfl,rfl⟩)|(go_at_call 238;with_reducible refine(HC.out _).mono ?_;rintro e w1 ⟨rfl,rfl⟩))
 all_goals go_ret
 all_goals exact⟨rfl,rfl⟩
theorem recip_num (x1 x0 y:Int) (s:Nat) (h0:0<y) (hn:Nrm y s) (hx:0≤x1∧x1<y) (hx0:0≤x0∧x0<18446744073709551616):
 ∃X1 X0 U m T R k ρ:Int,y*2^s=U∧Go.bits .or .u64 (IntKind.u64.wrap (x1*2^s)) (x0/2^(64-s))=X1∧IntKind.u64.wrap (x0*2^s)=X0∧
  340282366920938463463374607431768211455/U-18446744073709551616=m∧0≤m∧m<18446744073709551616∧0≤X1∧X1<U∧0≤X0∧X0<18446744073709551616∧
  (m*X1/18446744073709551616+X1+(m*X1%18446744073709551616+X0)/18446744073709551616)%18446744073709551616=T∧0≤T∧T+2<18446744073709551618∧
  X1*18446744073709551616+X0=U*T+R∧0≤R∧R<18446744073709551616+U∧
  (x1*18446744073709551616+x0)/y=T+k∧R=k*U+ρ∧0≤k∧k≤2∧0≤ρ∧ρ<U∧ρ/2^s=(x1*18446744073709551616+x0)%y∧T+k<18446744073709551616:=by
 obtain⟨hs1,hs2,hlo,hhi⟩:=hn
 obtain⟨p,hp⟩: ∃p:Int,(2:Int)^s=p:=⟨_,rfl⟩
 obtain⟨r,hr⟩: ∃r:Int,(2:Int)^(64-s)=r:=⟨_,rfl⟩
 have hpr:r*p=18446744073709551616:=by rw[←hp,←hr,←Int.pow_add,show 64-s+s=64 from by omega];rfl
 have hp0:0<p:=by rw[←hp];exact Int.pow_pos (by omega)
 have hr0:0<r:=by rw[←hr];exact Int.pow_pos (by omega)
 obtain⟨U,hU⟩: ∃U:Int,y*2^s=U:=⟨_,rfl⟩
 rw[hU] at hlo hhi
 obtain⟨D,hD⟩: ∃D:Int,x0*2^s=D:=⟨_,rfl⟩
 obtain⟨E,hE⟩: ∃E:Int,x1*2^s=E:=⟨_,rfl⟩
 have hE0:0≤E:=by rw[←hE];exact Int.mul_nonneg hx.1 (by rw[hp];omega)
 have hEp:(y-1-x1)*p+E+p=U:=by rw[←hU,←hE,hp,Int.sub_mul,Int.sub_mul];omega
 have hEU:E+p≤U:=by have:=Int.mul_nonneg (show 0≤y-1-x1 by omega) (Int.le_of_lt hp0);omega
 have hD0:0≤D:=by rw[←hD];exact Int.mul_nonneg hx0.1 (by rw[hp];omega)
 have hq:x0/r=D/18446744073709551616:=by
  rw[←hD,hp,←hpr,Int.mul_ediv_mul_of_pos_left _ _ hp0]
 have hDp:D/18446744073709551616<p:=by
  refine ediv_lt (by omega) ?_
  rw[←hD,hp,Int.mul_comm]
  exact Int.mul_lt_mul_of_pos_left hx0.2 hp0
 have hDl:0≤D/18446744073709551616:=Int.ediv_nonneg hD0 (by omega)
 have hX1:Go.bits .or .u64 (IntKind.u64.wrap (x1*2^s)) (x0/2^(64-s))=E+D/18446744073709551616:=by
  rw[hE,hr,hq,wrap_same E hE0 (by omega),or_join64 (D/18446744073709551616) E s hDl (by rw[hp];exact hDp) hE0 (by rw[←hE];exact Int.mul_emod_left _ _) (by omega) (by omega)]
  omega
 obtain⟨X1,hX1e⟩: ∃X1,E+D/18446744073709551616=X1:=⟨_,rfl⟩
 have hX0:IntKind.u64.wrap (x0*2^s)=D%18446744073709551616:=by rw[hD,IntKind.wrap_u64]
 obtain⟨X0,hX0e⟩: ∃X0,D%18446744073709551616=X0:=⟨_,rfl⟩
 rw[hX1e] at hX1
 rw[hX0e] at hX0
 obtain⟨N,hN⟩: ∃N,x1*18446744073709551616+x0=N:=⟨_,rfl⟩
 have hNp:X1*18446744073709551616+X0=N*p:=by
  rw[←hN,Int.add_mul,←hp,hD,Int.mul_right_comm,hE];omega
 have hN0:0≤N:=by rw[←hN];omega
 have hNy:N<18446744073709551616*y:=by rw[←hN];omega
 have hdm:=Int.mul_ediv_add_emod N y
 have hr1:=Int.emod_nonneg N (b:=y) (by omega)
 have hr2:=Int.emod_lt_of_pos N (b:=y) h0
 have hq0:=Int.ediv_nonneg (a:=N) (b:=y) hN0 (by omega)
 have hqB:N/y<18446744073709551616:=ediv_lt h0 hNy
 obtain⟨q,hqe⟩: ∃q,N/y=q:=⟨_,rfl⟩
 obtain⟨t,hte⟩: ∃t,N%y=t:=⟨_,rfl⟩
 rw[hqe] at hdm hq0 hqB
 rw[hte] at hdm hr1 hr2
 have hNq:N*p=q*U+t*p:=by
  rw[←hdm,Int.add_mul,←hU,hp,Int.mul_comm y q,Int.mul_assoc]
 have hρ0:0≤t*p:=Int.mul_nonneg hr1 (by omega)
 have hρ1:t*p<U:=by rw[←hU,hp];exact Int.mul_lt_mul_of_pos_right hr2 hp0
 have hv:=Int.mul_ediv_add_emod 340282366920938463463374607431768211455 U
 have hv1:=Int.emod_nonneg 340282366920938463463374607431768211455 (b:=U) (by omega)
 have hv2:=Int.emod_lt_of_pos 340282366920938463463374607431768211455 (b:=U) (by omega)
 have hm0:18446744073709551616≤340282366920938463463374607431768211455/U:=le_ediv (by omega) (by omega)
 have hm1:340282366920938463463374607431768211455/U<36893488147419103232:=ediv_lt (by omega) (by omega)
 obtain⟨v,hve⟩: ∃v,340282366920938463463374607431768211455/U=v:=⟨_,rfl⟩
 rw[hve,Int.mul_comm] at hv
 rw[hve] at hm0 hm1
 have hX10:0≤X1:=by omega
 have hX1U:X1<U:=by omega
 have hX00:0≤X0:=by omega
 have hX01:X0<18446744073709551616:=by omega
 obtain⟨g,hg⟩: ∃g,(X1*v+X0)/18446744073709551616=g:=⟨_,rfl⟩
 have hxv:0≤X1*v:=Int.mul_nonneg hX10 (by omega)
 obtain⟨g1,g2⟩:=recip_guess (x1:=X1) (x0:=X0) (d:=U) (v:=v) (t:=g) (by omega) (by omega) hX10 hX1U hX00 hX01 (by omega) (by omega) (by omega) (by omega)
 rw[hNp] at g1 g2
 have hgB:g<18446744073709551616:=by
  have:g*U<18446744073709551616*U:=by
   have:N*p<18446744073709551616*U:=by rw[←hNp];omega
   omega
  exact Int.lt_of_mul_lt_mul_right this (by omega)
 have hg0:0≤g:=by omega
 have hM:X1*v=(v-18446744073709551616)*X1+X1*18446744073709551616:=by
  rw[Int.mul_comm X1 v,Int.sub_mul];omega
 rw[hM] at hg
 have hT:((v-18446744073709551616)*X1/18446744073709551616+X1+((v-18446744073709551616)*X1%18446744073709551616+X0)/18446744073709551616)%18446744073709551616=g:=by
  generalize (v-18446744073709551616)*X1=M at hg⊢
  omega
 have hk:(q-g)*U=q*U-g*U:=Int.sub_mul _ _ _
 have hk0:0≤q-g:=by
  rcases Int.lt_or_le (q-g) 0 with h|h
  ·have:=Int.mul_le_mul_of_nonneg_right (show q-g≤ -1 by omega) (show 0≤U by omega)
   omega
  ·exact h
 have hk2:q-g≤2:=by
  rcases Int.lt_or_le 2 (q-g) with h|h
  ·have:=Int.mul_le_mul_of_nonneg_right (show 3≤q-g by omega) (show 0≤U by omega)
   omega
  ·exact h
 have hgU:U*g=g*U:=Int.mul_comm _ _
 refine⟨X1,X0,U,v-18446744073709551616,g,N*p-g*U,q-g,t*p,hU,hX1,hX0,by rw[hve],by omega,by omega,hX10,hX1U,hX00,hX01,hT,hg0,by omega,by rw[hNp,hgU];omega,by omega,by omega,?_,by rw[hk];omega,hk0,hk2,hρ0,hρ1,?_,by omega⟩
 ·rw[hN,hqe];omega
 ·rw[hN,hte,hp,Int.mul_ediv_cancel _ (by omega)]
set_option maxRecDepth 100000 in
set_option maxHeartbeats 2000000 in
theorem divWW_c (x1 x0 y m:Int) (s:Nat) (w:World) (h0:0<y) (h1:y<9223372036854775808) (hn:Nrm y s) (hs:64-(Lib.bitLen y.toNat:Int)=s) (hx:0≤x1∧x1<y) (hx0:0≤x0∧x0<18446744073709551616)
 (hm:m=340282366920938463463374607431768211455/(y*2^s)-18446744073709551616):
 Calls Tryz.prog 240 #[.int .u64 x1, .int .u64 x0, .int .u64 y, .int .u64 m] w fun e w'=>e= .returned (.tuple #[.int .u64 ((x1*18446744073709551616+x0)/y), .int .u64 ((x1*18446744073709551616+x0)%y)])∧w'=w:=by
 have HN:=Lib.hid (fun w=>nlz_w y w (by omega) (by omega))
 rw[hs] at HN
 obtain⟨X1,X0,U,m',T,R,k,ρ,hU,hX1,hX0,hm',m0,mB,a1,a2,a3,a4,hT,t0,tB,hR,r0,rB,hq,hRk,k0,k2,ρ0,ρU,hρ,tk⟩:=recip_num x1 x0 y s h0 hn hx hx0
 have hlo:=hn.lo
 have hhi:=hn.hi
 have hs1:=hn.s1
 have hs2:=hn.s2
 clear hn
 rw[hU] at hm hlo hhi
 obtain rfl:m=m':=by rw[hm];exact hm'
 clear hm hm'
 have wU:IntKind.u64.wrap (y*2^s)=U:=by rw[hU];exact wrap_same U (by omega) (by omega)
 have ws:IntKind.u64.wrap (64-(s:Int))=((64-s:Nat):Int):=by rw[IntKind.wrap_u64];omega
 have bs:((s:Int)==0)=false:=by simp;omega
 have HM1:=Lib.hid (fun w=>mul_w m X1 w ⟨m0,mB⟩ ⟨a1,by omega⟩)
 have hMl:0≤m*X1%18446744073709551616:=Int.emod_nonneg _ (by omega)
 have hMh:0≤m*X1/18446744073709551616:=Int.ediv_nonneg (Int.mul_nonneg m0 a1) (by omega)
 have hMl2:m*X1%18446744073709551616<18446744073709551616:=Int.emod_lt_of_pos _ (by omega)
 generalize m*X1/18446744073709551616=t1 at HM1 hT hMh
 generalize m*X1%18446744073709551616=tl at HM1 hT hMl hMl2
 have HA1:=Lib.hid (fun w=>add_w tl X0 0 w hMl a3 (by decide) (by decide))
 rw[Int.add_zero] at HA1
 have hc0:0≤(tl+X0)/18446744073709551616∧(tl+X0)/18446744073709551616≤1:=by omega
 generalize (tl+X0)%18446744073709551616=sl at HA1
 generalize (tl+X0)/18446744073709551616=c at HA1 hT hc0
 have HA2:=Lib.hid (fun w=>add_w t1 X1 c w hMh a1 hc0.1 hc0.2)
 rw[hT] at HA2
 generalize (t1+X1+c)/18446744073709551616=c2 at HA2
 have HM2:=Lib.hid (fun w=>mul_w U T w ⟨by omega,by omega⟩ ⟨t0,by omega⟩)
 have hP:0≤U*T:=Int.mul_nonneg (by omega) t0
 generalize U*T=P at HM2 hR hP
 obtain⟨p1,hp1⟩: ∃p1,P/18446744073709551616=p1:=⟨_,rfl⟩
 obtain⟨p0,hp0⟩: ∃p0,P%18446744073709551616=p0:=⟨_,rfl⟩
 rw[hp1,hp0] at HM2
 have HS1:=Lib.hid (fun w=>sub_w X0 p0 0 w a3 ⟨by omega,by omega⟩ (by decide) (by decide))
 rw[Int.sub_zero,Int.add_zero] at HS1
 obtain⟨b,hb⟩: ∃b:Int,(if X0<p0 then 1 else 0)=b:=⟨_,rfl⟩
 have hb2:(X0<p0∧b=1)∨(¬X0<p0∧b=0):=by
  by_cases h:X0<p0
  ·rw[if_pos h] at hb;exact .inl ⟨h,hb.symm⟩
  ·rw[if_neg h] at hb;exact .inr ⟨h,hb.symm⟩
 rw[hb] at HS1
 have HS2:=Lib.hid (fun w=>sub_w X1 p1 b w a1 ⟨by omega,by omega⟩ (by omega) (by omega))
 generalize (if X1<p1+b then(1:Int) else 0)=b2 at HS2
 obtain⟨z0,hz0⟩: ∃z,(X0+18446744073709551616-p0)%18446744073709551616=z:=⟨_,rfl⟩
 obtain⟨z1,hz1⟩: ∃z,(X1+18446744073709551616-p1-b)%18446744073709551616=z:=⟨_,rfl⟩
 rw[hz0] at HS1
 rw[hz1] at HS2
 have hz:(z1=0∧z0=R∧R<18446744073709551616)∨(z1=1∧z0=R-18446744073709551616∧18446744073709551616≤R):=by
  clear HN HM1 HA1 HA2 HM2 HS1 HS2 hX1 hX0 hq hρ hRk hb
  rcases hb2 with⟨_,rfl⟩|⟨_,rfl⟩<;>omega
 have hkk:k=0∨k=1∨k=2:=by omega
 obtain⟨q,hqe⟩: ∃q,(x1*18446744073709551616+x0)/y=q:=⟨_,rfl⟩
 obtain⟨t,hte⟩: ∃t,(x1*18446744073709551616+x0)%y=t:=⟨_,rfl⟩
 rw[hqe] at hq⊢
 rw[hte] at hρ⊢
 clear hqe hte hb hb2 hz0 hz1 hp1 hp0 hP hR hT a1 a2 a3 a4 hc0 hMl hMh hMl2 m0 mB hx hx0 h0 h1 hU hs
 have h4:(z1=0∧k=0∧z0=ρ)∨(z1=0∧k=1∧z0=U+ρ∧U+ρ<18446744073709551616)∨(z1=1∧k=1∧z0=U+ρ-18446744073709551616∧18446744073709551616≤U+ρ)∨(z1=1∧k=2∧z0=U+U+ρ-18446744073709551616∧U+ρ<18446744073709551616):=by
  rcases hkk with rfl|rfl|rfl<;>omega
 clear hz hkk hRk
 rcases h4 with⟨rfl,rfl,rfl⟩|⟨rfl,rfl,rfl,hlt⟩|⟨rfl,rfl,rfl,hge⟩|⟨rfl,rfl,rfl,hlt⟩
 ·obtain rfl:q=T:=by omega
  clear hq
  have hg: ¬U≤z0:=by omega
  go_enter Tryz.func240,Tryz.ntmps240
  go_wp2_with (first
  |(go_at_call 220;with_reducible refine(HN.out _).mono ?_;rintro e w1 ⟨rfl,rfl⟩)
  |(go_at_call 249;with_reducible refine(HM1.out _).mono ?_;rintro e w1 ⟨rfl,rfl⟩)
  |(go_at_call 249;with_reducible refine(HM2.out _).mono ?_;rintro e w1 ⟨rfl,rfl⟩)
  |(go_at_call 218;with_reducible refine(HA1.out _).mono ?_;rintro e w1 ⟨rfl,rfl⟩)
  |(go_at_call 218;with_reducible refine(HA2.out _).mono ?_;rintro e w1 ⟨rfl,rfl⟩)
  |(go_at_call 251;with_reducible refine(HS1.out _).mono ?_;rintro e w1 ⟨rfl,rfl⟩)
  |(go_at_call 251;with_reducible refine(HS2.out _).mono ?_;rintro e w1 ⟨rfl,rfl⟩))
  all_goals go_ret2
  all_goals exact⟨rfl,rfl⟩
 ·obtain rfl:q=T+1:=by omega
  have hg:U≤U+ρ:=by omega
  have k1:IntKind.u64.wrap (T+1)=T+1:=wrap_same _ (by omega) (by omega)
  have k2:IntKind.u64.wrap (U+ρ-U)=ρ:=by rw[show U+ρ-U=ρ from by omega];exact wrap_same _ ρ0 (by omega)
  go_enter Tryz.func240,Tryz.ntmps240
  go_wp2_with (first
  |(go_at_call 220;with_reducible refine(HN.out _).mono ?_;rintro e w1 ⟨rfl,rfl⟩)
  |(go_at_call 249;with_reducible refine(HM1.out _).mono ?_;rintro e w1 ⟨rfl,rfl⟩)
  |(go_at_call 249;with_reducible refine(HM2.out _).mono ?_;rintro e w1 ⟨rfl,rfl⟩)
  |(go_at_call 218;with_reducible refine(HA1.out _).mono ?_;rintro e w1 ⟨rfl,rfl⟩)
  |(go_at_call 218;with_reducible refine(HA2.out _).mono ?_;rintro e w1 ⟨rfl,rfl⟩)
  |(go_at_call 251;with_reducible refine(HS1.out _).mono ?_;rintro e w1 ⟨rfl,rfl⟩)
  |(go_at_call 251;with_reducible refine(HS2.out _).mono ?_;rintro e w1 ⟨rfl,rfl⟩))
  all_goals go_ret2
  all_goals exact⟨rfl,rfl⟩
 ·obtain rfl:q=T+1:=by omega
  have hg: ¬U≤ρ:=by omega
  have k1:IntKind.u64.wrap (T+1)=T+1:=wrap_same _ (by omega) (by omega)
  have k2:IntKind.u64.wrap (U+ρ-18446744073709551616-U)=ρ:=by rw[IntKind.wrap_u64];omega
  generalize hz0:U+ρ-18446744073709551616=z0 at HS1 k2
  clear hz0 hge
  go_enter Tryz.func240,Tryz.ntmps240
  go_wp2_with (first
  |(go_at_call 220;with_reducible refine(HN.out _).mono ?_;rintro e w1 ⟨rfl,rfl⟩)
  |(go_at_call 249;with_reducible refine(HM1.out _).mono ?_;rintro e w1 ⟨rfl,rfl⟩)
  |(go_at_call 249;with_reducible refine(HM2.out _).mono ?_;rintro e w1 ⟨rfl,rfl⟩)
  |(go_at_call 218;with_reducible refine(HA1.out _).mono ?_;rintro e w1 ⟨rfl,rfl⟩)
  |(go_at_call 218;with_reducible refine(HA2.out _).mono ?_;rintro e w1 ⟨rfl,rfl⟩)
  |(go_at_call 251;with_reducible refine(HS1.out _).mono ?_;rintro e w1 ⟨rfl,rfl⟩)
  |(go_at_call 251;with_reducible refine(HS2.out _).mono ?_;rintro e w1 ⟨rfl,rfl⟩))
  all_goals go_ret2
  all_goals exact⟨rfl,rfl⟩
 ·obtain rfl:q=T+2:=by omega
  have k1:IntKind.u64.wrap (T+1)=T+1:=wrap_same _ (by omega) (by omega)
  have k3:IntKind.u64.wrap (T+1+1)=T+2:=by rw[show T+1+1=T+2 from by omega];exact wrap_same _ (by omega) (by omega)
  have k2:IntKind.u64.wrap (U+U+ρ-18446744073709551616-U)=U+ρ:=by rw[IntKind.wrap_u64];omega
  have hg:U≤U+ρ:=by omega
  have k4:IntKind.u64.wrap (U+ρ-U)=ρ:=by rw[show U+ρ-U=ρ from by omega];exact wrap_same _ ρ0 (by omega)
  generalize hz0:U+U+ρ-18446744073709551616=z0 at HS1 k2
  clear hz0 hlt
  go_enter Tryz.func240,Tryz.ntmps240
  go_wp2_with (first
  |(go_at_call 220;with_reducible refine(HN.out _).mono ?_;rintro e w1 ⟨rfl,rfl⟩)
  |(go_at_call 249;with_reducible refine(HM1.out _).mono ?_;rintro e w1 ⟨rfl,rfl⟩)
  |(go_at_call 249;with_reducible refine(HM2.out _).mono ?_;rintro e w1 ⟨rfl,rfl⟩)
  |(go_at_call 218;with_reducible refine(HA1.out _).mono ?_;rintro e w1 ⟨rfl,rfl⟩)
  |(go_at_call 218;with_reducible refine(HA2.out _).mono ?_;rintro e w1 ⟨rfl,rfl⟩)
  |(go_at_call 251;with_reducible refine(HS1.out _).mono ?_;rintro e w1 ⟨rfl,rfl⟩)
  |(go_at_call 251;with_reducible refine(HS2.out _).mono ?_;rintro e w1 ⟨rfl,rfl⟩))
  all_goals go_ret2
  all_goals exact⟨rfl,rfl⟩
theorem leN_drop (l:List Int) (j:Nat) (h:j<l.length):leN (l.drop j)=l[j]+18446744073709551616*leN (l.drop (j+1)):=by
 rw[List.drop_eq_getElem_cons h,leN_cons]
theorem div_step (l:List Int) (j:Nat) (h:j<l.length) (y:Int):(leN (l.drop (j+1))%y*18446744073709551616+l[j])%y=leN (l.drop j)%y:=by
 rw[leN_drop l j h,Int.add_emod,Int.mul_emod,Int.emod_emod_of_dvd _ (Int.dvd_refl y),←Int.mul_emod,←Int.add_emod,Int.mul_comm,Int.add_comm]
set_option maxRecDepth 100000 in
set_option maxHeartbeats 2000000 in
theorem divWVW_c (g b o c1 c s:Nat) (l zs:List Int) (y:Int) (w:World) (hz:zs.length=l.length) (h2:2≤l.length) (hmax:l.length≤4398046511104) (hr:IRow .u64 w g zs) (hzw:Words zs) (hw:Words l)
 (hcell: ∀j (h:j<l.length),w.cell? ⟨b,o+j,none⟩=some (.int .u64 l[j])) (hb:b<g) (h0:0<y) (h1:y<9223372036854775808) (hn:Nrm y s) (hs:64-(Lib.bitLen y.toNat:Int)=s):
 Calls Tryz.prog 222 #[.slice (some ⟨g,0,none⟩) l.length c1, .int .u64 0, .slice (some ⟨b,o,none⟩) l.length c, .int .u64 y] w fun e w'=>
  e= .returned (.int .u64 (leN l%y))∧(∃qs,qs.length=l.length∧Words qs∧IRow .u64 w' g qs)∧Below g w w':=by
 have e1:((l.length:Int)==1)=false:=by simp;omega
 have HRC:=Lib.hid (fun w=>recip_c y s w h0 h1 hn hs)
 obtain⟨m,hm⟩: ∃m,340282366920938463463374607431768211455/(y*2^s)-18446744073709551616=m:=⟨_,rfl⟩
 rw[hm] at HRC
 have HDW:=Lib.hid (fun x1 x0 w hx hx0=>divWW_c x1 x0 y m s w h0 h1 hn hs hx hx0 hm.symm)
 have HC:=Lib.hid hcell
 have HW:=Lib.hid hw
 have HR:=Lib.hid hr
 have HZW:=Lib.hid hzw
 have H0:=Lib.hid (And.intro h0 h1)
 clear hcell hr hw hzw hn hs hm
 go_enter Tryz.func222,Tryz.ntmps222
 go_wp2_with (go_at_call 239;with_reducible refine(HRC.out _).mono ?_;rintro e w1 ⟨rfl,rfl⟩)
 go_loopw [8,12] (fun a d wr=> ∃(j:Nat) (qs:List Int) (r:Int),j≤l.length∧d= .int .i64 ((j:Int)-1)∧a= .int .u64 r∧Hid (r=leN (l.drop j)%y)∧Hid (qs.length=l.length)∧Hid (Words qs)∧Hid (IRow .u64 wr g qs)∧Hid (Below g w1 wr)) (fun _ d _=>((intOf d)+1).toNat)
 case atStart=>exact⟨l.length,zs,0,Nat.le_refl _,rfl,rfl,Lib.hid (by simp[leN]),hz,HZW.out,HR.out,Below.refl _ _⟩
 case round=>
  obtain⟨j,qs,r,hj,rfl,rfl,Hr,Hl,HQ,HQR,HB⟩:=hrel
  rcases j with _|j
  ·have hr:r=leN l%y:=by have:=Hr.out;simpa using this
   subst hr
   go_wp2
   go_ret
   exact⟨rfl,⟨qs,Hl.out,HQ.out,HQR.out⟩,HB.out⟩
  ·have hjl:j<l.length:=by omega
   have hjq:j<qs.length:=by have:=Hl.out;omega
   have ej:((j+1:Nat):Int)-1=(j:Int):=by omega
   rw[ej]
   have hx:=(HB.out.cell (p:=⟨b,o+j,none⟩) hb).trans (HC.out j hjl)
   have hrb:0≤r∧r<y:=by
    rw[Hr.out];have:=H0.out
    exact⟨Int.emod_nonneg _ (by omega),Int.emod_lt_of_pos _ (by omega)⟩
   have hxb:=HW.out l[j] (List.getElem_mem hjl)
   have HD:=Lib.hid (HDW.out r l[j] wr hrb hxb)
   have HE:Hid ((r*18446744073709551616+l[j])%y=leN (l.drop j)%y):=by
    refine Lib.hid ?_
    rw[Hr.out];exact div_step l j hjl y
   have hqb:0≤(r*18446744073709551616+l[j])/y∧(r*18446744073709551616+l[j])/y<18446744073709551616:=by
    have:=H0.out
    exact⟨Int.ediv_nonneg (by omega) (by omega),ediv_lt (by omega) (by omega)⟩
   generalize (r*18446744073709551616+l[j])/y=q at HD hqb
   generalize (r*18446744073709551616+l[j])%y=r2 at HD HE
   generalize l[j]=xj at hx HD hxb
   obtain⟨q1,q2,q3,q4⟩:=irow_step (v:=q) HQR.out hjq HB.out (Nat.le_refl _)
   have Q3:=Lib.hid q3
   have Q4:=Lib.hid q4
   have Q5:=Lib.hid (words_set qs j q HQ.out hqb.1 hqb.2)
   clear q3 q4
   go_wp2_with (go_at_call 240;with_reducible refine HD.out.mono ?_;rintro e w2 ⟨rfl,rfl⟩)
   go_roundw
   case rel=>exact⟨j,_,r2,by omega,by go_num,rfl,HE,Lib.hid (by simpa using Hl.out),Q5,Q3,Q4⟩
   case measure=>simp[intOf]
set_option maxRecDepth 100000 in
theorem divW_c (B:Nat) (v:Value) (zs:List Int) (y:Int) (w:World) (h:Sl .u64 B w v zs) (h2:2≤zs.length) (hw:Words zs) (hmax:zs.length≤4398046511104) (h0:0<y) (h1:y<9223372036854775808):
 Calls Tryz.prog 204 #[.slice none 0 0,v, .int .u64 y] w fun e w'=>(∃A n c,e= .returned (.tuple #[.slice A n c, .int .u64 (leN zs%y)]))∧Below w.heap.size w w':=by
 have ey0:(y==0)=false:=by simp;omega
 by_cases hy:y=1
 ·subst hy
  have HC:=Lib.hid (fun w' (hb:Below w.heap.size w w')=>natSet_c B v zs w' (h.below hb) hmax)
  have hm:leN zs%1=0:=Int.emod_one _
  rw[hm]
  obtain⟨A,c,rfl,_⟩:=h.c
  clear h
  have HB0:Hid (Below w.heap.size w w):=Below.refl _ _
  go_enter Tryz.func204,Tryz.ntmps204
  go_wp2_with (go_at_call 160;with_reducible refine(HC.out _ HB0.out).mono ?_;rintro e w1 ⟨u,rfl,hs1,hb1⟩;obtain⟨A1,k1,rfl,_⟩:=hs1.c;have HB1:=Lib.hid hb1;clear hs1 hb1)
  go_ret2
  exact⟨⟨_,_,_,rfl⟩,HB1.out⟩
 ·have ey1:(y==1)=false:=by simp[hy]
  obtain⟨s,hn,hs⟩:=nrm_of y h0 h1
  have hne:zs≠[]:=fun e=>by subst e;simp at h2
  obtain⟨A,c,rfl,k1,k2,k3⟩:=h
  obtain⟨b,o,rfl,hB,hlt,hc⟩:=k3 hne
  have el:((zs.length:Int)==0)=false:=by simp;omega
  have HM:=Lib.hid (fun w=>make_nil zs.length w (by omega) hmax)
  have HD:=Lib.hid (fun(c1:Nat) (w1:World) (hb1:Below w.heap.size w w1) (hr1:IRow .u64 w1 w.heap.size (List.replicate zs.length 0))=>divWVW_c w.heap.size b o c1 c s zs _ y w1 (by simp) h2 hmax hr1 (words_zeros _) hw (fun j hj=>(hb1.cell (p:=⟨b,o+j,none⟩) hlt).trans (hc j hj)) hlt h0 h1 hn hs)
  generalize leN zs%y=r at HD⊢
  clear hc hn hs h0 h1 hy k3 hw
  go_enter Tryz.func204,Tryz.ntmps204
  go_wp2_with (first
   |(go_at_call 161;with_reducible refine(HM.out _).mono ?_;rintro e w1 ⟨c1,rfl,hc1,hc2,hr1,hb1,hz1⟩;have HC1:=Lib.hid (And.intro hc1 hc2);have HR1:=Lib.hid hr1;have HB1:=Lib.hid hb1;have hlt1:w.heap.size<w1.heap.size:=(by rw[hz1];exact Nat.lt_succ_self _);clear hr1 hb1 hz1 hc1 hc2)
   |(go_at_call 222;with_reducible refine(HD.out _ _ HB1.out HR1.out).mono ?_;rintro e w2 ⟨rfl,⟨qs,hql,hqw,hqr⟩,hb2⟩;have HQL:=Lib.hid (And.intro hql (And.intro hqw hqr));have HB2:=Lib.hid (HB1.out.trans hb2);have HL2:=Lib.hid (Nat.lt_of_lt_of_le hlt1 hb2.size);clear hql hqw hqr hb2)
   |(go_at_call 166;with_reducible refine(norm_own _ zs.length _ qs _ HQL.out.1 HC1.out.1 (by have:=HC1.out.2;omega) HQL.out.2.2 HL2.out HQL.out.2.1).mono ?_;rintro e w3 ⟨rfl,i,ys,rfl,y1,y2,y3,y4,y5,y6⟩))
  go_ret2
  exact⟨⟨_,_,_,rfl⟩,HB2.out⟩
def wordL (x:Int):List Int:=if x=0 then[] else[x]
theorem words_wordL (x:Int) (h0:0≤x) (h1:x<18446744073709551616):Words (wordL x):=by
 unfold wordL;split
 ·intro z hz;cases hz
 ·intro z hz;cases hz with
  |head=>exact⟨h0,h1⟩
  |tail _ h=>cases h
theorem top_wordL (x:Int):Top (wordL x):=by
 unfold wordL;split
 ·intro h;exact absurd rfl h
 ·rename_i h;intro _;simpa using h
theorem irow_one (w:World) (g:Nat) (x:Int) (h:IRow .u64 w g (List.replicate 1 0)):IRow .u64 (w.setCell ⟨g,0,none⟩ (.int .u64 x)) g [x]:=by
 have:=h.set 0 (by simp) x
 simpa using this
set_option maxRecDepth 100000 in
theorem setWord_c (x:Int) (w:World):
 Calls Tryz.prog 133 #[.slice none 0 0, .int .u64 x] w fun e w'=> ∃A c,e= .returned (.slice A (wordL x).length c)∧Sl .u64 w.heap.size w' (.slice A (wordL x).length c) (wordL x)∧Below w.heap.size w w':=by
 by_cases hx:x=0
 ·subst hx
  go_enter Tryz.func133,Tryz.ntmps133
  go_wp2
  go_ret
  exact⟨none,0,rfl,Sl.nil,Below.refl _ _⟩
 ·have ex:(x==0)=false:=by simp[hx]
  have HL:Hid (wordL x=[x]):=by unfold wordL;rw[if_neg hx];exact rfl
  rw[HL.out]
  have HM:=Lib.hid (fun w=>make_nil 1 w (by omega) (by omega))
  clear hx
  go_enter Tryz.func133,Tryz.ntmps133
  go_wp2_with (go_at_call 161;refine(HM.out _).mono ?_;rintro e w1 ⟨c1,rfl,hc1,hc2,hr1,hb1,hz1⟩;have HC1:=Lib.hid (And.intro hc1 hc2);have q1:=hr1.1 0 (by simp);have q2:=hr1.2 0 (by simp);have HR1:=Lib.hid hr1;have HB1:=Lib.hid hb1;have hlt1:w.heap.size<w1.heap.size:=(by rw[hz1];exact Nat.lt_succ_self _);clear hr1 hb1 hz1 hc1 hc2)
  go_ret
  exact⟨_,_,rfl,(irow_one _ _ x HR1.out).sl' (by simpa using hlt1) HC1.out.1 (by simp),HB1.out.setCell (Nat.le_refl _) _⟩
set_option maxRecDepth 100000 in
theorem natDiv_c (B B2:Nat) (v v2:Value) (zs:List Int) (y:Int) (w:World) (h:Sl .u64 B w v zs) (h2:2≤zs.length) (hw:Words zs) (hmax:zs.length≤4398046511104) (hv:Sl .u64 B2 w v2 [y]) (h0:0<y) (h1:y<9223372036854775808):
 Calls Tryz.prog 175 #[.slice none 0 0, .pointer none, .slice none 0 0,v,v2] w fun e w'=>(∃A n c A2 c2,e= .returned (.tuple #[.slice A n c, .slice A2 (wordL (leN zs%y)).length c2])∧Sl .u64 w.heap.size w' (.slice A2 (wordL (leN zs%y)).length c2) (wordL (leN zs%y)))∧Below w.heap.size w w':=by
 have HD:=Lib.hid (divW_c B v zs y w h h2 hw hmax h0 h1)
 obtain⟨A2,c2,rfl,k1,k2,k3⟩:=hv
 obtain⟨b,o,rfl,hB,hlt,hc⟩:=k3 (by simp)
 have x0:w.cell? ⟨b,o,none⟩=some (.int .u64 y):=by simpa using hc 0 (by simp)
 obtain⟨A,c,rfl,_⟩:=h.c
 clear h hc k3 k2 k1 h0 h1 hw hmax h2
 generalize leN zs%y=r at HD⊢
 have HS:=Lib.hid (fun w=>setWord_c r w)
 obtain⟨rl,hrl⟩: ∃l,wordL r=l:=⟨_,rfl⟩
 rw[hrl] at HS⊢
 clear hrl
 go_enter Tryz.func175,Tryz.ntmps175
 go_wp2_with (first
  |(go_at_call 204;with_reducible refine HD.out.mono ?_;rintro e w1 ⟨⟨A1,n1,c1,rfl⟩,hb1⟩;have HB1:=Lib.hid hb1;clear hb1)
  |(go_at_call 133;with_reducible refine(HS.out _).mono ?_;rintro e w2 ⟨A3,c3,rfl,hs3,hb3⟩;have HS3:=Lib.hid hs3;have HB3:=Lib.hid hb3;clear hs3 hb3))
 go_ret2
 exact⟨⟨_,_,_,_,_,rfl,HS3.out.mono HB1.out.size⟩,HB1.out.trans (HB3.out.mono HB1.out.size)⟩
end Go.Proofs.YtkplnbjgkhmbcaaGreatDoor
namespace Go.Proofs.YtkplnbjgkhmbcaaGreatDoor
open Go.RowKit Go.Shelf Go.Proofs.YtkplnbjgkhmbcaaGreatDoorW.PrintWords Go.Proofs.YtkplnbjgkhmbcaaGreatDoorW.PrintLast Go.Proofs.YtkplnbjgkhmbcaaGreatDoorW.PrintMore
set_option linter.unusedVariables false
set_option linter.unusedSimpArgs false
structure PI (w:World) (g o:Nat) (neg:Bool) (v:Value) (zs:List Int):Prop where
 blk: ∃cs t,w.heap[g]?=some (.cells cs t (0,0))∧cs[o]?=some (.bool neg)∧cs[o+1]?=some v
 sl:Sl .u64 0 w v zs
 words:Words zs
 top:Top zs
section
variable {w w':World} {g o:Nat} {neg:Bool} {v:Value} {zs:List Int}
theorem PI.c0 (h:PI w g o neg v zs):w.cell? ⟨g,o,none⟩=some (.bool neg):=by
 obtain⟨cs,t,h1,h2,_⟩:=h.blk;exact blk_cell h1 o _ h2
theorem PI.c1 (h:PI w g o neg v zs):w.cell? ⟨g,o+1,none⟩=some v:=by
 obtain⟨cs,t,h1,_,h2⟩:=h.blk;exact blk_cell h1 (o+1) _ h2
theorem PI.lt (h:PI w g o neg v zs):g<w.heap.size:=lt_of_cell h.c0
theorem PI.below (h:PI w g o neg v zs) (hb:Below w.heap.size w w'):PI w' g o neg v zs:=by
 obtain⟨cs,t,h1,h2,h3⟩:=h.blk
 exact⟨⟨cs,t,blk_below h1 hb,h2,h3⟩,h.sl.below hb,h.words,h.top⟩
theorem BI.pi (h:BI w g neg v zs):PI w g 0 neg v zs:=⟨⟨_,_,h.blk,rfl,rfl⟩,h.sl.mono (Nat.zero_le _),h.words,h.top⟩
end
theorem ptr_otherP (w:World) (g o g2:Nat) (h:g2≠g) {ca cb:Array Value} {ta tb:TypeId} (ha:w.heap[g2]?=some (.cells ca ta (0,0))) (hb:w.heap[g]?=some (.cells cb tb (0,0))):(binOp .neq 118 (.pointer (some ⟨g2,0,none⟩)) (.pointer (some ⟨g,o,none⟩))).run Tryz.prog w= .ok (.bool true) w:=by
 obtain⟨i,hi,hs⟩:=Option.map_eq_some_iff.1 intInfo
 exact run_neq_ptr_other w Tryz.underlying118 hi (by rw[hs];decide) (by intro e;injection e with e;exact h e) ha hb
end Go.Proofs.YtkplnbjgkhmbcaaGreatDoor
namespace Go.Proofs.YtkplnbjgkhmbcaaGreatDoor
def Bez (a b:Int):Prop:= ∃x y:Int,a*x+b*y=1
theorem Bez.swap {a b:Int} (h:Bez a b):Bez b a:=by
 obtain⟨x,y,h⟩:=h
 exact⟨y,x,by omega⟩
theorem Bez.step {a b:Int} (h:Bez a b):Bez b (a%b):=by
 obtain⟨x,y,h⟩:=h
 refine⟨a/b*x+y,x,?_⟩
 have e:=Int.mul_ediv_add_emod a b
 rw[Int.mul_add,←Int.mul_assoc]
 have e2:a*x=b*(a/b)*x+a%b*x:=by rw[←Int.add_mul,e]
 omega
theorem Bez.zero {a:Int} (h:Bez a 0) (h0:0≤a):a=1:=by
 obtain⟨x,y,h⟩:=h
 rw[Int.zero_mul,Int.add_zero] at h
 have h1:a∣1:=⟨x,h.symm⟩
 have h2:=Int.le_of_dvd (by omega) h1
 have h3:a≠0:=by
  intro e;rw[e,Int.zero_mul] at h;omega
 omega
theorem bez_one (a:Int):Bez a 1:=⟨0,1,by omega⟩
theorem bez_two (m:Int) (hm:m%2=1): ∀t:Nat,Bez m (2^t):=by
 intro t
 induction t with
 |zero=>exact⟨0,1,by simp⟩
 |succ t ih=>
  obtain⟨x,y,h⟩:=ih
  rcases Int.emod_two_eq y with hy|hy
  ·refine⟨x,y/2,?_⟩
   have e:y=2*(y/2):=by omega
   rw[Int.pow_succ,Int.mul_assoc,←e];exact h
  ·refine⟨x+2^t,(y-m)/2,?_⟩
   have e:y-m=2*((y-m)/2):=by omega
   rw[Int.pow_succ,Int.mul_assoc,←e,Int.mul_add,Int.mul_sub,Int.mul_comm (2^t) m]
   omega
theorem leN_take_succ (l:List Int) (k:Nat) (h:k<l.length):leN (l.take (k+1))=leN (l.take k)+18446744073709551616^k*l[k]:=by
 rw[List.take_succ_eq_append_getElem h,leN_append,List.length_take,leN_cons,leN_nil,Nat.min_eq_left (by omega)]
 simp
structure AM (xs D0:List Int) (i:Nat) (d:Int) (j:Nat) (D:List Int) (c:Int):Prop where
 len:D.length=D0.length
 words:Words D
 rest: ∀k (h:k<D.length) (h0:k<D0.length),i+j≤k→D[k]=D0[k]
 c0:0≤c
 c1:c<18446744073709551616
 num:leN D+18446744073709551616^(i+j)*c=leN D0+18446744073709551616^i*(leN (xs.take j)*d)
theorem am_start (xs D0:List Int) (i:Nat) (d:Int) (hw:Words D0):AM xs D0 i d 0 D0 0:=
 ⟨rfl,hw,fun _ _ _ _=>rfl,by omega,by omega,by simp[leN]⟩
theorem am_step {xs D0:List Int} {i:Nat} {d:Int} {j:Nat} {D:List Int} {c:Int} (h:AM xs D0 i d j D c) (hx:Words xs) (hd:0≤d∧d<18446744073709551616) (hj:j<xs.length) (hij:i+j<D.length):
 0≤xs[j]*d+D[i+j]+c∧xs[j]*d+D[i+j]+c<340282366920938463463374607431768211456∧
 AM xs D0 i d (j+1) (D.set (i+j) ((xs[j]*d+D[i+j]+c)%18446744073709551616)) ((xs[j]*d+D[i+j]+c)/18446744073709551616):=by
 have hx0:=hx xs[j] (List.getElem_mem hj)
 have hD:=h.words D[i+j] (List.getElem_mem hij)
 have c0:=h.c0
 have c1:=h.c1
 have hn:=h.num
 have p0:0≤xs[j]*d:=Int.mul_nonneg hx0.1 hd.1
 have p1:xs[j]*d≤18446744073709551615*18446744073709551615:=by
  have a:xs[j]*d≤xs[j]*18446744073709551615:=Int.mul_le_mul_of_nonneg_left (by omega) hx0.1
  have b:xs[j]*18446744073709551615≤18446744073709551615*18446744073709551615:=Int.mul_le_mul_of_nonneg_right (by omega) (by omega)
  omega
 refine⟨by omega,by omega,⟨by simpa using h.len,words_set _ _ _ h.words (by omega) (by omega),fun k hk h0 hle=>?_,by omega,by omega,?_⟩⟩
 ·rw[List.getElem_set_ne (by omega)]
  exact h.rest k (by simpa using hk) h0 (by omega)
 ·rw[leN_set _ _ hij,leN_take_succ xs j hj]
  have hD0:=h.rest (i+j) hij (by rw[←h.len];exact hij) (Nat.le_refl _)
  obtain⟨t,ht⟩: ∃t,xs[j]*d+D[i+j]+c=t:=⟨_,rfl⟩
  have e3:t/18446744073709551616*18446744073709551616+t%18446744073709551616=t:=by omega
  rw[ht]
  rw[show i+(j+1)=i+j+1 from rfl,Int.pow_succ,Int.mul_assoc,Int.mul_comm 18446744073709551616 (t/18446744073709551616)]
  obtain⟨P,hP⟩: ∃P:Int,18446744073709551616^(i+j)=P:=⟨_,rfl⟩
  have e4:P*(t%18446744073709551616-D[i+j])+P*(t/18446744073709551616*18446744073709551616)=P*(xs[j]*d)+P*c:=by
   rw[←Int.mul_add,←Int.mul_add];congr 1;omega
  have e5:(18446744073709551616:Int)^i*((leN (xs.take j)+18446744073709551616^j*xs[j])*d)=18446744073709551616^i*(leN (xs.take j)*d)+P*(xs[j]*d):=by
   rw[←hP,Int.pow_add,Int.add_mul,Int.mul_add,Int.mul_assoc (18446744073709551616^j),Int.mul_assoc (18446744073709551616^i) (18446744073709551616^j)]
  rw[hP] at hn⊢
  rw[e5]
  omega
structure BM (xs ys:List Int) (i:Nat) (D:List Int):Prop where
 len:D.length=xs.length+ys.length
 words:Words D
 rest: ∀k (h:k<D.length),xs.length+i≤k→D[k]=0
 num:leN D=leN xs*leN (ys.take i)
theorem bm_start (xs ys:List Int):BM xs ys 0 (List.replicate (xs.length+ys.length) 0):=
 ⟨by simp,words_zeros _,fun k h _=>by simp,by rw[leN_zeros];simp[leN]⟩
theorem bm_skip {xs ys:List Int} {i:Nat} {D:List Int} (h:BM xs ys i D) (hi:i<ys.length) (hz:ys[i]=0):BM xs ys (i+1) D:=
 ⟨h.len,h.words,fun k hk hle=>h.rest k hk (by omega),by rw[leN_take_succ ys i hi,hz];simp[h.num]⟩
theorem bm_step {xs ys:List Int} {i:Nat} {D D':List Int} {c:Int} (h:BM xs ys i D) (hi:i<ys.length) (a:AM xs D i ys[i] xs.length D' c):BM xs ys (i+1) (D'.set (xs.length+i) c):=by
  have hl:=h.len
  have hl2:=a.len
  have hlt:xs.length+i<D'.length:=by omega
  refine⟨by simpa using hl2.trans hl,words_set _ _ _ a.words a.c0 a.c1,fun k hk hle=>?_,?_⟩
  · have hk2:k<D'.length:=by simpa using hk
    rw[List.getElem_set_ne (by omega),a.rest k hk2 (by omega) (by omega)]
    exact h.rest k _ (by omega)
  · have e0:D'[xs.length+i]=0:=by
      rw[a.rest _ hlt (by omega) (by omega)]
      exact h.rest _ _ (Nat.le_refl _)
    have hn:=a.num
    rw[leN_set _ _ hlt,e0,leN_take_succ ys i hi,Int.sub_zero,Nat.add_comm xs.length i,hn,h.num,List.take_length,Int.mul_add]
    rw[Int.mul_comm (18446744073709551616^i) (leN xs*ys[i]),Int.mul_assoc,Int.mul_comm ys[i]]
theorem bm_end {xs ys D:List Int} (h:BM xs ys ys.length D):leN D=leN xs*leN ys:=by
 rw[h.num,List.take_length]
structure WM (xs:List Int) (y r:Int) (n j:Nat) (D:List Int) (c:Int):Prop where
 len:D.length=n
 words:Words D
 c0:0≤c
 c1:c<18446744073709551616
 num:leN (D.take j)+18446744073709551616^j*c=leN (xs.take j)*y+r
theorem wm_start (xs:List Int) (y r:Int) (n:Nat) (D:List Int) (hl:D.length=n) (hw:Words D) (h0:0≤r) (h1:r<18446744073709551616):WM xs y r n 0 D r:=
 ⟨hl,hw,h0,h1,by simp[leN]⟩
theorem wm_step {xs:List Int} {y r:Int} {n j:Nat} {D:List Int} {c:Int} (h:WM xs y r n j D c) (hx:Words xs) (hy:0≤y∧y<18446744073709551616) (hj:j<xs.length) (hjn:j<n):
 0≤xs[j]*y+c∧xs[j]*y+c<340282366920938463463374607431768211456∧WM xs y r n (j+1) (D.set j ((xs[j]*y+c)%18446744073709551616)) ((xs[j]*y+c)/18446744073709551616):=by
 have hx0:=hx xs[j] (List.getElem_mem hj)
 have c0:=h.c0
 have c1:=h.c1
 have hn:=h.num
 have hl:=h.len
 have p0:0≤xs[j]*y:=Int.mul_nonneg hx0.1 hy.1
 have p1:xs[j]*y≤18446744073709551615*18446744073709551615:=by
  have a:xs[j]*y≤xs[j]*18446744073709551615:=Int.mul_le_mul_of_nonneg_left (by omega) hx0.1
  have b:xs[j]*18446744073709551615≤18446744073709551615*18446744073709551615:=Int.mul_le_mul_of_nonneg_right (by omega) (by omega)
  omega
 refine⟨by omega,by omega,⟨by simpa using hl,words_set _ _ _ h.words (by omega) (by omega),by omega,by omega,?_⟩⟩
 have hjD:j<(D.set j ((xs[j]*y+c)%18446744073709551616)).length:=by simp;omega
 rw[leN_take_succ _ j hjD,leN_take_succ xs j hj,List.getElem_set_self,List.take_set_of_le (Nat.le_refl _)]
 obtain⟨t,ht⟩: ∃t,xs[j]*y+c=t:=⟨_,rfl⟩
 rw[ht,Int.pow_succ,Int.mul_assoc,Int.add_mul]
 obtain⟨P,hP⟩: ∃P:Int,18446744073709551616^j=P:=⟨_,rfl⟩
 rw[hP] at hn⊢
 have e4:P*(t%18446744073709551616)+P*(18446744073709551616*(t/18446744073709551616))=P*(xs[j]*y)+P*c:=by
  rw[←Int.mul_add,←Int.mul_add];congr 1;omega
 rw[Int.mul_assoc P]
 omega
end Go.Proofs.YtkplnbjgkhmbcaaGreatDoor
namespace Go.Proofs.YtkplnbjgkhmbcaaGreatDoor
set_option linter.unusedVariables false
structure Hv (M S:Int) (m s:Int):Prop where
 m0:0≤m
 mM:m≤M
 ex: ∃j:Nat,M=m*2^j∧S=s+j
 low:s<0→m=M∧s=S
theorem hv_start (M S:Int) (h:0≤M):Hv M S M S:=⟨h,Int.le_refl _,⟨0,by simp,by omega⟩,fun _=>⟨rfl,rfl⟩⟩
theorem hv_step {M S m s:Int} (h:Hv M S m s) (he:m%2=0) (hs:0<s):Hv M S (m/2) (s-1):=by
 obtain⟨h1,h2,⟨j,e1,e2⟩,h4⟩:=h
 refine⟨by omega,by omega,⟨j+1,?_,by omega⟩,fun h=>by omega⟩
 rw[Int.pow_succ,Int.mul_comm (2^j) 2,←Int.mul_assoc,e1]
 congr 1;omega
def ratA (m s:Int):Int:=m*2^(-s).toNat
def ratB (s:Int):Int:=2^s.toNat
theorem two_pos (n:Nat):(0:Int)<2^n:=Int.pow_pos (by omega)
theorem hv_rat {M S m s p:Int} (h:Hv M S m s) (hp:S= -p):ratA m s*2^(-p).toNat=M*2^p.toNat*ratB s:=by
 obtain⟨h1,h2,⟨j,e1,e2⟩,h4⟩:=h
 unfold ratA ratB
 rcases Int.lt_or_le s 0 with hs|hs
 ·obtain⟨rfl,rfl⟩:=h4 hs
  rw[show(-p).toNat=0 from by omega,show s.toNat=0 from by omega,show(-s).toNat=p.toNat from by omega]
 ·rw[show(-s).toNat=0 from by omega,show p.toNat=0 from by omega,show(-p).toNat=j+s.toNat from by omega,e1,Int.pow_add]
  simp[Int.mul_assoc]
theorem hv_bez {M S m s:Int} (h:Hv M S m s) (he:s≤0∨m%2=1):Bez (ratA m s) (ratB s):=by
 unfold ratA ratB
 rcases Int.lt_or_le 0 s with hs|hs
 ·rw[show(-s).toNat=0 from by omega,Int.pow_zero,Int.mul_one]
  exact bez_two m (by omega) _
 ·rw[show s.toNat=0 from by omega,Int.pow_zero]
  exact bez_one _
theorem sgn_mul_left {x y:Int} (h:0<y):(if x*y<0 then(-1:Int) else if x*y=0 then 0 else 1)=if x<0 then-1 else if x=0 then 0 else 1:=by
 by_cases h1:x<0
 ·rw[if_pos h1,if_pos (Int.mul_neg_of_neg_of_pos h1 h)]
 ·by_cases h2:x=0
  ·rw[h2];simp
  ·have h3:0<x*y:=Int.mul_pos (by omega) h
   rw[if_neg h1,if_neg h2,if_neg (by omega),if_neg (by omega)]
theorem rat_cmp (X a b M p:Int) (hb:0<b) (h:a*2^(-p).toNat=M*2^p.toNat*b):sgn (X*b-a)=sgn (X*2^(-p).toNat-M*2^p.toNat):=by
 have hq:=two_pos (-p).toNat
 have e:(X*b-a)*2^(-p).toNat=(X*2^(-p).toNat-M*2^p.toNat)*b:=by
  rw[Int.sub_mul,Int.sub_mul,h,Int.mul_assoc X,Int.mul_comm b,←Int.mul_assoc X]
 have h1:sgn ((X*b-a)*2^(-p).toNat)=sgn (X*b-a):=by unfold sgn;exact sgn_mul_left hq
 have h2:sgn ((X*2^(-p).toNat-M*2^p.toNat)*b)=sgn (X*2^(-p).toNat-M*2^p.toNat):=by unfold sgn;exact sgn_mul_left hb
 rw[←h1,e,h2]
def shl1 (x:Int) (q:Nat) (r:Nat):List Int:=List.replicate q 0++[x*2^r%18446744073709551616,x*2^r/18446744073709551616]
theorem two64 (q:Nat):(2:Int)^(64*q)=18446744073709551616^q:=by
 rw[Int.pow_mul];congr 1
theorem shl1_num (x:Int) (q r:Nat):leN (shl1 x q r)=x*2^(64*q+r):=by
 unfold shl1
 rw[leN_append,leN_zeros,List.length_replicate,leN_cons,leN_cons,leN_nil,Int.pow_add,two64,Int.mul_comm (18446744073709551616^q) (2^r),←Int.mul_assoc,Int.mul_comm _ (18446744073709551616^q)]
 have:x*2^r%18446744073709551616+18446744073709551616*(x*2^r/18446744073709551616+18446744073709551616*0)=x*2^r:=by omega
 rw[this,Int.zero_add]
theorem shl1_words (x:Int) (q r:Nat) (h0:0≤x) (h1:x<18446744073709551616) (hr:r≤64):Words (shl1 x q r):=by
 have hp:=two_pos r
 have hle:(2:Int)^r≤18446744073709551616:=by
  have:2^r≤2^64:=Nat.pow_le_pow_right (by omega) hr
  have h:=Int.ofNat_le.2 this
  simpa using h
 have e0:0≤x*2^r:=Int.mul_nonneg h0 (by omega)
 have e1:x*2^r<18446744073709551616*18446744073709551616:=by
  have a:x*2^r≤x*18446744073709551616:=Int.mul_le_mul_of_nonneg_left hle h0
  omega
 intro y hy
 unfold shl1 at hy
 rw[List.mem_append] at hy
 rcases hy with hy|hy
 ·rw[List.mem_replicate] at hy;omega
 ·simp at hy
  rcases hy with rfl|rfl<;>omega
theorem shl1_len (x:Int) (q r:Nat):(shl1 x q r).length=q+2:=by unfold shl1;simp
end Go.Proofs.YtkplnbjgkhmbcaaGreatDoor
