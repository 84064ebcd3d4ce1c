/- WWords WLast WTab WMore PFnComparex0 PFnComparex1 PCmpx0 PCmpx1 PbytesOfx0 PbytesOfx1 Pr Num IBase SpecNum Brg SpecV Nat1 ShelfBits Bits Nat2 Int1 Int2 Int3 Int4 IntV NumMul SpecMul SpecLsh FloatV FloatW SpecWhole SpecCmpF ValV SpecCmpN NumDiv WordOps WordDiv WordDivB WordDivC NatDiv IntP NumGcd NumMulW NumRat NatCmp NatMul NatMul2 NatMul3 NatMul4 IntO IntQ IntG RatA RatB RatC RatD RatE RatG RatH RatS CmpA CmpB CmpC CmpD CmpE CmpF CmpG CmpH CmpI RemA RemB RemC RemD ImpA NumBytes ListV ImpB ImpC ImpD ImpE ImpF ImpG ImpH ImpI ImpJ ImpK ImpL ImpM ImpN ImpO ImpP SpecClean SpecSame SpecEq SpecFind SpecSameL SpecWith SpecMeth LawOf LawList LawRem ValOpen TreeFind TreeWith TreeEq TreeEq2 TreeBase TreeCB TreeKey TreeSca TreeRow TreeSet NumHash NumTree HashA HashQ TreeVal HashF TreeDict TreeClean ValOpenN HashG HtA HashH EqA EqB EqC HtB ValA ValB ValC LawBase LawType HtC HtD CdA SpecOrd SpecOrd2 SpecCmp SpecCmpB SpecSeq SpecCmpT CdB CdC HtE EqF CdD CdE CdF CdG CdH CdI CdJ CdK CdL CdM CdN CdO CdS CdR CdP LawReg LawCmp  LawCmp1 -/
import Derived.Test.YtkplnbjgkhmbcaaGreatDoorUa
import Derived.Test.YtkplnbjgkhmbcaaGreatDoorUb
import Derived.Test.YtkplnbjgkhmbcaaGreatDoorU01
import Derived.Test.YtkplnbjgkhmbcaaGreatDoorU02
import Derived.Test.YtkplnbjgkhmbcaaGreatDoorU03
import Derived.Test.YtkplnbjgkhmbcaaGreatDoorU04
import Derived.Test.YtkplnbjgkhmbcaaGreatDoorU05
import Derived.Test.YtkplnbjgkhmbcaaGreatDoorU06
import Derived.Test.YtkplnbjgkhmbcaaGreatDoorU07
import Derived.Test.YtkplnbjgkhmbcaaGreatDoorU08
import Derived.Test.YtkplnbjgkhmbcaaGreatDoorU09
import Derived.Test.YtkplnbjgkhmbcaaGreatDoorU10
import Derived.Test.YtkplnbjgkhmbcaaGreatDoorU11
import Derived.Test.YtkplnbjgkhmbcaaGreatDoorU12
import Derived.Test.YtkplnbjgkhmbcaaGreatDoorU13
import Derived.Test.YtkplnbjgkhmbcaaGreatDoorU14
import Derived.Test.YtkplnbjgkhmbcaaGreatDoorU15
import Derived.Test.YtkplnbjgkhmbcaaGreatDoorU16
import Derived.Test.YtkplnbjgkhmbcaaGreatDoorU17
import Derived.Test.YtkplnbjgkhmbcaaGreatDoorU18
import Derived.Test.YtkplnbjgkhmbcaaGreatDoorU19
import Derived.Test.YtkplnbjgkhmbcaaGreatDoorU20
import Derived.Test.YtkplnbjgkhmbcaaGreatDoorU21
import Derived.Test.YtkplnbjgkhmbcaaGreatDoorU22
import Derived.Test.YtkplnbjgkhmbcaaGreatDoorU23
import Derived.OrdersHeld
import Derived.Deep.RegionHeld3
namespace Go.Proofs.YtkplnbjgkhmbcaaGreatDoor
open Go.RowKit Go.Shelf Go.Proofs.YtkplnbjgkhmbcaaGreatDoorW.PrintWords Go.Proofs.YtkplnbjgkhmbcaaGreatDoorW.PrintLast Go.Proofs.YtkplnbjgkhmbcaaGreatDoorW.PrintMore Go.Proofs.YtkplnbjgkhmbcaaGreatDoor.PFnCompare Go.Proofs.YtkplnbjgkhmbcaaGreatDoor.PCmp Go.Proofs.YtkplnbjgkhmbcaaGreatDoor.PbytesOf
set_option linter.unusedVariables false
set_option linter.unusedSimpArgs false
set_option maxRecDepth 100000 in
set_option maxHeartbeats 4000000 in
theorem lawCompare_c (op : Int) (x y : VT) (A2 : Option Addr) (c2 : Nat) (A5 : Option Addr) (n5 c5 : Nat) (B2 : Option Addr) (d2 : Nat) (B5 : Option Addr) (m5 d5 : Nat) (w : World) (h1 : RawN 3 w x A2 c2 A5 n5 c5) (h2 : RawN 3 w y B2 d2 B5 m5 d5) (hT : Thr w) (hL : Lim w) :
    Calls Tryz.prog 5 #[.int .i64 op, .agg (six5 x A2 c2 A5 n5 c5), .agg (six5 y B2 d2 B5 m5 d5)] w fun e w' => e = .returned (.bool true) ∧ Below w.heap.size w w' := by
  obtain ⟨W0, hW0⟩ : ∃ W, W = (w.alloc (.cells (six5 x A2 c2 A5 n5 c5) 26)).alloc (.cells (six5 y B2 d2 B5 m5 d5) 26) := ⟨_, rfl⟩
  obtain ⟨hb0, k1, k2⟩ := two_new w (six5 x A2 c2 A5 n5 c5) (six5 y B2 d2 B5 m5 d5)
  rw [← hW0] at hb0 k1 k2
  have HC1 : Hid (∀ W, Below w.heap.size w W → Calls Tryz.prog 9 #[.agg (six5 x A2 c2 A5 n5 c5), .int .i64 3] W (ClR W)) := Lib.hid fun W hW => (cleanTree_c 3 (by omega) x A2 c2 A5 n5 c5 W (h1.below hW)).mono fun e w' h => clR_of h
  have HC2 : Hid (∀ W, Below w.heap.size w W → Calls Tryz.prog 9 #[.agg (six5 y B2 d2 B5 m5 d5), .int .i64 3] W (ClR W)) := Lib.hid fun W hW => (cleanTree_c 3 (by omega) y B2 d2 B5 m5 d5 W (h2.below hW)).mono fun e w' h => clR_of h
  have HTL : Hid (∀ W, Below w.heap.size w W → Thr W ∧ Lim W) := Lib.hid fun W hW => ⟨hT.below hW, hL.below hW⟩
  have HB := Lib.hid hb0
  have HK1 := Lib.hid k1
  have HK2 := Lib.hid k2
  obtain ⟨z0, z1, z2, z3, z4, z5⟩ := cells6 k1
  obtain ⟨v0, v1, v2, v3, v4, v5⟩ := cells6 k2
  clear h1 h2 hT hL hb0 k1 k2
  go_enter Tryz.func5, Tryz.ntmps5
  go_wp2_with fail
  rw [← hW0]
  clear hW0
  go_upto_region 3 with (go_at_call 8; (with_reducible refine (fitsV_c _ _ _ _ _ _ _ _ _ _ _).mono ?_); rintro e w1 ⟨⟨r, rfl⟩, hb1⟩; replace HK1 := Lib.hid (blk_below HK1.out hb1); replace HK2 := Lib.hid (blk_below HK2.out hb1); replace HB := Lib.hid (HB.out.trans (hb1.mono HB.out.size)); clear hb1 z0 z1 z2 z3 z4 z5 v0 v1 v2 v3 v4 v5; obtain ⟨z0, z1, z2, z3, z4, z5⟩ := cells6 HK1.out; obtain ⟨v0, v1, v2, v3, v4, v5⟩ := cells6 HK2.out; cases r)
  all_goals first | (go_ret; exact ⟨rfl, HB.out⟩) | skip
  go_cut [0] (fun a wx => ∃ k, a = .int .i64 k ∧ KOk k ∧ wx = w1)
  case first =>
    have hok := opK_ok op
    go_wp2
    go_meet
    exact ⟨_, rfl, hok, rfl⟩
  case rest =>
    obtain ⟨k, rfl, hk, rfl⟩ := hcut
    obtain ⟨wo, rfl⟩ : ∃ wo : World, wo = wc := ⟨_, rfl⟩
    go_upto_region 4 with fail
    have zl : w.heap.size < wo.heap.size := lt_of_cell z0
    have vl0 : w.heap.size + 1 < wo.heap.size := lt_of_cell v0
    go_cut [7, 8] (fun a b wx => ∃ p q r1 r2, a = .pointer (some ⟨p, 0, none⟩) ∧ b = .pointer (some ⟨q, 0, none⟩) ∧ Hid (Two2 w p q r1 r2 wx))
    case first =>
      refine wp_region_held_drew (S := fun V => V.heap[w.heap.size]? = some (.cells (six5 x A2 c2 A5 n5 c5) 26 (0, 0)) ∧ V.heap[w.heap.size + 1]? = some (.cells (six5 y B2 d2 B5 m5 d5) 26 (0, 0))) (by kernel_rfl) ⟨HK1.out, HK2.out⟩ (fun _ => ?_)
      obtain ⟨V, hV⟩ : ∃ V, V = wo.drew := ⟨_, rfl⟩
      have HS : Hid (Amid w (six5 x A2 c2 A5 n5 c5) (six5 y B2 d2 B5 m5 d5) V none none none none) := by rw [hV]; exact Lib.hid ⟨HB.out.drew, HK1.out, HK2.out, (fun _ e => by cases e), (fun _ e => by cases e), (fun _ _ e => by cases e), (fun _ e => by cases e), (fun _ e => by cases e)⟩
      have hbx := HS.out.box
      rw [← hV]
      clear hV HB HK1 HK2 z0 z1 z2 z3 z4 z5 v0 v1 v2 v3 v4 v5
      refine wpAnyH_take (i := 0) (oi := _) (v := ?_) rfl (by kernel_rfl) (by kernel_rfl) (by kernel_rfl) (fun _ _ _ h => h) (Or.inl ⟨by rfl, ?_⟩) (by assumption) ?_; rotate_left 1; · (intro V hSw; obtain ⟨z0, z1, z2, z3, z4, z5⟩ := cells6 hSw.1; clear hSw; go_simp; first | done | with_reducible rfl)
      (try simp only [Act.put, List.setIfInBounds_toArray, List.set_cons_zero, List.set_cons_succ, List.getElem_toArray, List.getElem_cons_zero, List.getElem_cons_succ])
      refine wpAnyH_take (i := 2) (oi := _) (v := ?_) rfl (by kernel_rfl) (by kernel_rfl) (by kernel_rfl) (fun _ _ _ h => h) (Or.inl ⟨by rfl, ?_⟩) (by assumption) ?_; rotate_left 1; · (intro V hSw; obtain ⟨z0, z1, z2, z3, z4, z5⟩ := cells6 hSw.2; clear hSw; go_simp; first | done | with_reducible rfl)
      (try simp only [Act.put, List.setIfInBounds_toArray, List.set_cons_zero, List.set_cons_succ, List.getElem_toArray, List.getElem_cons_zero, List.getElem_cons_succ])
      clear hbx
      repeat' first
        | (refine wpAnyH_ready (rs := [1, 4, 5]) (by decide +kernel) (by simp) (AllReadyH.cons (o := _) rfl (fun K hK => ?_) (AllReadyH.cons (o := _) rfl (fun K hK => ?_) (AllReadyH.cons (o := _) rfl (fun K hK => ?_) AllReadyH.nil))); (go_simp; go_at_call 9; (with_reducible refine (HC1.out _ HS.out.low).mono ?_); rintro e V2 ⟨r1, rfl, hM, hb⟩; have h := HS.out.c1 hM hb; clear hM hb; refine hK.out _ _ h.box (fun _ => ?_); clear hK K; replace HS := Lib.hid h; clear h; (try simp only [Act.put, List.setIfInBounds_toArray, List.set_cons_zero, List.set_cons_succ, List.getElem_toArray, List.getElem_cons_zero, List.getElem_cons_succ])); rotate_left 1; (go_simp; obtain ⟨V2, hV2, h⟩ := HS.out.al9; rw [← hV2]; clear hV2; refine hK.out _ _ h.box (fun _ => ?_); clear hK K; replace HS := Lib.hid h; clear h; (try simp only [Act.put, List.setIfInBounds_toArray, List.set_cons_zero, List.set_cons_succ, List.getElem_toArray, List.getElem_cons_zero, List.getElem_cons_succ])); rotate_left 1; (go_simp; obtain ⟨V2, hV2, h⟩ := HS.out.al10; rw [← hV2]; clear hV2; refine hK.out _ _ h.box (fun _ => ?_); clear hK K; replace HS := Lib.hid h; clear h; (try simp only [Act.put, List.setIfInBounds_toArray, List.set_cons_zero, List.set_cons_succ, List.getElem_toArray, List.getElem_cons_zero, List.getElem_cons_succ])))
        | (refine wpAnyH_ready (rs := [1, 5]) (by decide +kernel) (by simp) (AllReadyH.cons (o := _) rfl (fun K hK => ?_) (AllReadyH.cons (o := _) rfl (fun K hK => ?_) AllReadyH.nil)); (go_simp; go_at_call 9; (with_reducible refine (HC1.out _ HS.out.low).mono ?_); rintro e V2 ⟨r1, rfl, hM, hb⟩; have h := HS.out.c1 hM hb; clear hM hb; refine hK.out _ _ h.box (fun _ => ?_); clear hK K; replace HS := Lib.hid h; clear h; (try simp only [Act.put, List.setIfInBounds_toArray, List.set_cons_zero, List.set_cons_succ, List.getElem_toArray, List.getElem_cons_zero, List.getElem_cons_succ])); rotate_left 1; (go_simp; obtain ⟨V2, hV2, h⟩ := HS.out.al10; rw [← hV2]; clear hV2; refine hK.out _ _ h.box (fun _ => ?_); clear hK K; replace HS := Lib.hid h; clear h; (try simp only [Act.put, List.setIfInBounds_toArray, List.set_cons_zero, List.set_cons_succ, List.getElem_toArray, List.getElem_cons_zero, List.getElem_cons_succ])))
        | (refine wpAnyH_ready (rs := [1, 4]) (by decide +kernel) (by simp) (AllReadyH.cons (o := _) rfl (fun K hK => ?_) (AllReadyH.cons (o := _) rfl (fun K hK => ?_) AllReadyH.nil)); (go_simp; go_at_call 9; (with_reducible refine (HC1.out _ HS.out.low).mono ?_); rintro e V2 ⟨r1, rfl, hM, hb⟩; have h := HS.out.c1 hM hb; clear hM hb; refine hK.out _ _ h.box (fun _ => ?_); clear hK K; replace HS := Lib.hid h; clear h; (try simp only [Act.put, List.setIfInBounds_toArray, List.set_cons_zero, List.set_cons_succ, List.getElem_toArray, List.getElem_cons_zero, List.getElem_cons_succ])); rotate_left 1; (go_simp; obtain ⟨V2, hV2, h⟩ := HS.out.al9; rw [← hV2]; clear hV2; refine hK.out _ _ h.box (fun _ => ?_); clear hK K; replace HS := Lib.hid h; clear h; (try simp only [Act.put, List.setIfInBounds_toArray, List.set_cons_zero, List.set_cons_succ, List.getElem_toArray, List.getElem_cons_zero, List.getElem_cons_succ])))
        | (refine wpAnyH_ready (rs := [1]) (by decide +kernel) (by simp) (AllReadyH.cons (o := _) rfl (fun K hK => ?_) AllReadyH.nil); (go_simp; go_at_call 9; (with_reducible refine (HC1.out _ HS.out.low).mono ?_); rintro e V2 ⟨r1, rfl, hM, hb⟩; have h := HS.out.c1 hM hb; clear hM hb; refine hK.out _ _ h.box (fun _ => ?_); clear hK K; replace HS := Lib.hid h; clear h; (try simp only [Act.put, List.setIfInBounds_toArray, List.set_cons_zero, List.set_cons_succ, List.getElem_toArray, List.getElem_cons_zero, List.getElem_cons_succ])))
        | (refine wpAnyH_ready (rs := [3, 4, 5]) (by decide +kernel) (by simp) (AllReadyH.cons (o := _) rfl (fun K hK => ?_) (AllReadyH.cons (o := _) rfl (fun K hK => ?_) (AllReadyH.cons (o := _) rfl (fun K hK => ?_) AllReadyH.nil))); (go_simp; go_at_call 9; (with_reducible refine (HC2.out _ HS.out.low).mono ?_); rintro e V2 ⟨r2, rfl, hM, hb⟩; have h := HS.out.c2 hM hb; clear hM hb; refine hK.out _ _ h.box (fun _ => ?_); clear hK K; replace HS := Lib.hid h; clear h; (try simp only [Act.put, List.setIfInBounds_toArray, List.set_cons_zero, List.set_cons_succ, List.getElem_toArray, List.getElem_cons_zero, List.getElem_cons_succ])); rotate_left 1; (go_simp; obtain ⟨V2, hV2, h⟩ := HS.out.al9; rw [← hV2]; clear hV2; refine hK.out _ _ h.box (fun _ => ?_); clear hK K; replace HS := Lib.hid h; clear h; (try simp only [Act.put, List.setIfInBounds_toArray, List.set_cons_zero, List.set_cons_succ, List.getElem_toArray, List.getElem_cons_zero, List.getElem_cons_succ])); rotate_left 1; (go_simp; obtain ⟨V2, hV2, h⟩ := HS.out.al10; rw [← hV2]; clear hV2; refine hK.out _ _ h.box (fun _ => ?_); clear hK K; replace HS := Lib.hid h; clear h; (try simp only [Act.put, List.setIfInBounds_toArray, List.set_cons_zero, List.set_cons_succ, List.getElem_toArray, List.getElem_cons_zero, List.getElem_cons_succ])))
        | (refine wpAnyH_ready (rs := [3, 5]) (by decide +kernel) (by simp) (AllReadyH.cons (o := _) rfl (fun K hK => ?_) (AllReadyH.cons (o := _) rfl (fun K hK => ?_) AllReadyH.nil)); (go_simp; go_at_call 9; (with_reducible refine (HC2.out _ HS.out.low).mono ?_); rintro e V2 ⟨r2, rfl, hM, hb⟩; have h := HS.out.c2 hM hb; clear hM hb; refine hK.out _ _ h.box (fun _ => ?_); clear hK K; replace HS := Lib.hid h; clear h; (try simp only [Act.put, List.setIfInBounds_toArray, List.set_cons_zero, List.set_cons_succ, List.getElem_toArray, List.getElem_cons_zero, List.getElem_cons_succ])); rotate_left 1; (go_simp; obtain ⟨V2, hV2, h⟩ := HS.out.al10; rw [← hV2]; clear hV2; refine hK.out _ _ h.box (fun _ => ?_); clear hK K; replace HS := Lib.hid h; clear h; (try simp only [Act.put, List.setIfInBounds_toArray, List.set_cons_zero, List.set_cons_succ, List.getElem_toArray, List.getElem_cons_zero, List.getElem_cons_succ])))
        | (refine wpAnyH_ready (rs := [3, 4]) (by decide +kernel) (by simp) (AllReadyH.cons (o := _) rfl (fun K hK => ?_) (AllReadyH.cons (o := _) rfl (fun K hK => ?_) AllReadyH.nil)); (go_simp; go_at_call 9; (with_reducible refine (HC2.out _ HS.out.low).mono ?_); rintro e V2 ⟨r2, rfl, hM, hb⟩; have h := HS.out.c2 hM hb; clear hM hb; refine hK.out _ _ h.box (fun _ => ?_); clear hK K; replace HS := Lib.hid h; clear h; (try simp only [Act.put, List.setIfInBounds_toArray, List.set_cons_zero, List.set_cons_succ, List.getElem_toArray, List.getElem_cons_zero, List.getElem_cons_succ])); rotate_left 1; (go_simp; obtain ⟨V2, hV2, h⟩ := HS.out.al9; rw [← hV2]; clear hV2; refine hK.out _ _ h.box (fun _ => ?_); clear hK K; replace HS := Lib.hid h; clear h; (try simp only [Act.put, List.setIfInBounds_toArray, List.set_cons_zero, List.set_cons_succ, List.getElem_toArray, List.getElem_cons_zero, List.getElem_cons_succ])))
        | (refine wpAnyH_ready (rs := [3]) (by decide +kernel) (by simp) (AllReadyH.cons (o := _) rfl (fun K hK => ?_) AllReadyH.nil); (go_simp; go_at_call 9; (with_reducible refine (HC2.out _ HS.out.low).mono ?_); rintro e V2 ⟨r2, rfl, hM, hb⟩; have h := HS.out.c2 hM hb; clear hM hb; refine hK.out _ _ h.box (fun _ => ?_); clear hK K; replace HS := Lib.hid h; clear h; (try simp only [Act.put, List.setIfInBounds_toArray, List.set_cons_zero, List.set_cons_succ, List.getElem_toArray, List.getElem_cons_zero, List.getElem_cons_succ])))
        | (refine wpAnyH_ready (rs := [4, 5]) (by decide +kernel) (by simp) (AllReadyH.cons (o := _) rfl (fun K hK => ?_) (AllReadyH.cons (o := _) rfl (fun K hK => ?_) AllReadyH.nil)); (go_simp; obtain ⟨V2, hV2, h⟩ := HS.out.al9; rw [← hV2]; clear hV2; refine hK.out _ _ h.box (fun _ => ?_); clear hK K; replace HS := Lib.hid h; clear h; (try simp only [Act.put, List.setIfInBounds_toArray, List.set_cons_zero, List.set_cons_succ, List.getElem_toArray, List.getElem_cons_zero, List.getElem_cons_succ])); rotate_left 1; (go_simp; obtain ⟨V2, hV2, h⟩ := HS.out.al10; rw [← hV2]; clear hV2; refine hK.out _ _ h.box (fun _ => ?_); clear hK K; replace HS := Lib.hid h; clear h; (try simp only [Act.put, List.setIfInBounds_toArray, List.set_cons_zero, List.set_cons_succ, List.getElem_toArray, List.getElem_cons_zero, List.getElem_cons_succ])))
        | (refine wpAnyH_ready (rs := [5]) (by decide +kernel) (by simp) (AllReadyH.cons (o := _) rfl (fun K hK => ?_) AllReadyH.nil); (go_simp; obtain ⟨V2, hV2, h⟩ := HS.out.al10; rw [← hV2]; clear hV2; refine hK.out _ _ h.box (fun _ => ?_); clear hK K; replace HS := Lib.hid h; clear h; (try simp only [Act.put, List.setIfInBounds_toArray, List.set_cons_zero, List.set_cons_succ, List.getElem_toArray, List.getElem_cons_zero, List.getElem_cons_succ])))
        | (refine wpAnyH_ready (rs := [4]) (by decide +kernel) (by simp) (AllReadyH.cons (o := _) rfl (fun K hK => ?_) AllReadyH.nil); (go_simp; obtain ⟨V2, hV2, h⟩ := HS.out.al9; rw [← hV2]; clear hV2; refine hK.out _ _ h.box (fun _ => ?_); clear hK K; replace HS := Lib.hid h; clear h; (try simp only [Act.put, List.setIfInBounds_toArray, List.set_cons_zero, List.set_cons_succ, List.getElem_toArray, List.getElem_cons_zero, List.getElem_cons_succ])))
        | (refine wpAnyH_ready (rs := [6]) (by decide +kernel) (by simp) (AllReadyH.cons (o := _) rfl (fun K hK => ?_) AllReadyH.nil); obtain ⟨⟨s0, s1, s2, s3, s4, s5⟩, sf⟩ := (HS.out.x9 _ rfl).1.at; go_simp; obtain ⟨V2, hV2, h⟩ := HS.out.st9; rw [← hV2]; clear hV2 s0 s1 s2 s3 s4 s5 sf; refine hK.out _ _ h.bx (fun _ => ?_); clear hK K; (try simp only [Act.put, List.setIfInBounds_toArray, List.set_cons_zero, List.set_cons_succ, List.getElem_toArray, List.getElem_cons_zero, List.getElem_cons_succ]); have HT := Lib.hid h; clear h HS)
        | (refine wpAnyH_ready (rs := [7]) (by decide +kernel) (by simp) (AllReadyH.cons (o := _) rfl (fun K hK => ?_) AllReadyH.nil); obtain ⟨⟨s0, s1, s2, s3, s4, s5⟩, sf⟩ := HT.out.x10.at; go_simp; obtain ⟨V2, hV2, h, hbx⟩ := HT.out.st10; rw [← hV2]; clear hV2 s0 s1 s2 s3 s4 s5 sf; refine hK.out _ _ hbx (fun _ => ?_); clear hK K; (try simp only [Act.put, List.setIfInBounds_toArray, List.set_cons_zero, List.set_cons_succ, List.getElem_toArray, List.getElem_cons_zero, List.getElem_cons_succ]); refine wpAnyH_done (by kernel_rfl) ?_ _; (go_wp2_with fail; go_meet; exact ⟨_, _, _, _, rfl, rfl, Lib.hid h⟩))
    case rest =>
      obtain ⟨p, q, ⟨y1, P2, p2, P5, p5⟩, ⟨y2, Q2, q2, Q5, q5⟩, rfl, rfl, H2⟩ := hcut
      obtain ⟨o, ho⟩ : ∃ o, cmpV 4 k y1 y2 = o := ⟨_, rfl⟩
      have HI : Hid (Calls Tryz.prog 14 #[.int .i64 k, .agg (six5 y1 P2 p2 P5 y1.f5.length p5), .agg (six5 y2 Q2 q2 Q5 y2.f5.length q5)] wc fun e w' => ICR o e ∧ Below wc.heap.size wc w') := by
        have := implCompare_c 3 (by omega) k hk ((cdTree_c 3 (by omega)).mono (by omega)) _ _ y1 y2 wc H2.out.v1 H2.out.v2 H2.out.c1 H2.out.c2 (HTL.out _ H2.out.low).1 (HTL.out _ H2.out.low).2
        rw [ho] at this
        exact Lib.hid this
      have HS : Hid (∀ W, Below wc.heap.size wc W → Calls Tryz.prog 13 #[.int .i64 k, .agg (six5 y1 P2 p2 P5 y1.f5.length p5), .agg (six5 y2 Q2 q2 Q5 y2.f5.length q5)] W fun e W' => SCR o e ∧ Below W.heap.size W W') := Lib.hid fun W hW => by
        have := treeCmp_c k hk 3 (by omega) y1 y2 _ _ W (H2.out.v1.below hW) (H2.out.v2.below hW) H2.out.c1 H2.out.c2
        rw [ho] at this
        exact this
      clear ho HC1 HC2 HK1 HK2 z0 z1 z2 z3 z4 z5 v0 v1 v2 v3 v4 v5
      obtain ⟨z0, z1, z2, z3, z4, z5⟩ := cells6 H2.out.b1
      obtain ⟨v0, v1, v2, v3, v4, v5⟩ := cells6 H2.out.b2
      rcases o with _ | b
      rotate_left
      cases b
      all_goals
        go_wp2_with (first
          | (go_at_call 14; (with_reducible refine HI.out.mono ?_); rintro e w4 ⟨he, hb4⟩; cases he; have HB4 := Lib.hid hb4; clear hb4 z0 z1 z2 z3 z4 z5 v0 v1 v2 v3 v4 v5; obtain ⟨z0, z1, z2, z3, z4, z5⟩ := cells6 (blk_below H2.out.b1 HB4.out); obtain ⟨v0, v1, v2, v3, v4, v5⟩ := cells6 (blk_below H2.out.b2 HB4.out))
          | (go_at_call 13; (with_reducible refine (HS.out _ HB4.out).mono ?_); rintro e w5 ⟨he, hb5⟩; cases he; have HB5 := Lib.hid (HB4.out.trans (hb5.mono HB4.out.size)); clear hb5))
        go_ret
        exact ⟨rfl, H2.out.low.trans (HB5.out.mono H2.out.low.size)⟩
end Go.Proofs.YtkplnbjgkhmbcaaGreatDoor
