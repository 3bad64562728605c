/- FnRecalculated. -/
import Derived.Test.YtbepljmeflndkaaC
import Derived.Test.YtbepljmeflndkaaJ
import Derived.Test.YtbepljmeflndkaaK
import Derived.Test.YtbepljmeflndkaaL
namespace Go.Proofs.Ytbepljmeflndkaa
open Go.Eng
set_option maxRecDepth 100000
attribute [local irreducible] IntKind.wrap Int.tdiv Int.tmod Int.emod sm encO encG maxLen

set_option maxHeartbeats 4000000 in
theorem f3_any (w : World) (A : Option Addr) (cap : Nat) (ls : List OG) (d : Int) (hd : 0 ≤ d ∧ d ≤ 255) (hR : RdO w A ls) :
    Calls Try.prog 3 [Value.slice A ls.length cap, .int .u8 d].toArray w (Out w [] (fun _ : Unit => True) (fun _ => .bool true) (fun _ => [])) := by
  have hlen36 : (someL 5 ls).length ≤ 1000 := Nat.le_trans (someL_len 5 ls) (by decide)
  have hd4 : d.tmod 4 = d % 4 := Int.tmod_eq_emod_of_nonneg hd.1
  have hd43 : 0 ≤ d.tmod 4 ∧ d.tmod 4 ≤ 3 := by omega
  have hs1 := (sum_same (decide (2 ≤ d.tmod 4)) (someL 5 ls) (someL_OB 5 ls) hlen36).1
  have hs2 := up_same (decide (2 ≤ d.tmod 4)) (someL 5 ls) (someL_OB 5 ls)
  have hs3 := dn_same (decide (2 ≤ d.tmod 4)) (someL 5 ls) (someL_OB 5 ls)
  refine enter (n := 24) Try.func3 rfl rfl rfl (Hp.refl w) ?_
  refine c_seq ?_
  -- region 0
  refine c_region ?_
  refine l_val (y_assign rfl) rfl rfl rfl ?_
  refine l_nil ?_
  refine q_then ?_
  refine c_seq ?_
  refine c_seq ?_
  -- region 1
  refine c_region ?_
  refine l_val (y_move rfl) rfl rfl rfl ?_
  refine l_val (y_len sl_22 rfl) rfl rfl rfl ?_
  refine l_val (y_bin rfl rfl rfl rfl) rfl rfl rfl ?_
  refine l_nil ?_
  refine q_then ?_
  refine c_cond rfl (fun hc8 => ?_) (fun hc8 => ?_)
  · skip
    refine c_seq ?_
    -- region 2
    refine c_region ?_
    refine l_val (y_assign rfl) rfl rfl rfl ?_
    refine l_nil ?_
    refine q_then ?_
    refine c_ret ?_
    refine q_then_ret ?_
    exact body_ret (rs := [.tmp 4]) rfl (vs := [.bool true]) ⟨rfl, trivial⟩ (out_end () trivial rfl .nil) _ (.inr rfl)
  · skip
    refine c_skip ?_
    refine q_then ?_
    refine c_seq ?_
    -- region 3
    refine c_region ?_
    refine l_val (y_move rfl) rfl rfl rfl ?_
    refine l_val (y_move rfl) rfl rfl rfl ?_
    refine l_call ok_5 rfl rfl (out_new (fun w1 hw1 => f5_any w1 A cap ls d 5 hd (by decide) (hR.keep hw1))) ?_
    intro sv hok
    refine l_gives rfl rfl (g_alloc ze_24) rfl ?_
    intro b5 hb5
    refine l_does rfl rfl (g_storeN (vs := [_, _, _, _, _, _]) (cs' := [_, _, _, _, _, _]) sz_24 rfl rfl rfl rfl rfl (uC_one _ _ _ _ _ _ _) rfl .here) ?_
    intro _ _
    refine l_nil ?_
    refine q_then ?_
    refine c_seq ?_
    -- region 4
    refine c_drawH mixed rfl ?_
    refine d_val (i := 0) rfl (by kernel_rfl) (by kernel_rfl) (by kernel_rfl) (y_loadN (vs := [_, _, _, _, _, _]) ld_24 rfl m0 rfl rfl) rfl (no_guard rfl) rfl (fun _ _ _ h => h) ?_
    refine d_val (i := 2) rfl (by kernel_rfl) (by kernel_rfl) (by kernel_rfl) (y_loadN (vs := [_, _, _, _, _, _]) ld_24 rfl m0 rfl rfl) rfl (no_guard rfl) rfl (fun _ _ _ h => h) ?_
    refine d_ready (i := 1) (rs := []) (by kernel_rfl) .refl (all_one ?_)
    refine o_call rfl (no_guard rfl) ok_7 rfl rfl (out_new (fun w1 hw1 => f7_any w1 (svA sv) (svC sv) (someL 5 ls) (d.tmod 4) 7 8 9 10 _ (slV_eq hok) (slOk_cap hok) (RdO_sv hw1 (.skip .refl) hok) hlen36 hd43 (inG_small (by omega)) (inG_small (by omega)) (inG_small (by omega)) (inG_small (by omega)) (someL_OB 5 ls) (fun g hg => ⟨(someL_pos 5 (by decide) ls g hg).1.1, (someL_pos 5 (by decide) ls g hg).2⟩) (someL_cl 5 ls))) ?_
    intro sv1 hok1
    rw [hs1, hs2, hs3]
    refine d_ready (i := 3) (rs := []) (by kernel_rfl) (.left .refl) (all_one ?_)
    refine o_call rfl (no_guard rfl) ok_8 rfl rfl (out_new (fun w1 hw1 => f8_any w1 (svA sv) (svC sv) (someL 5 ls) (d.tmod 4) 7 8 9 10 (decide (2 ≤ d.tmod 4)) rfl _ (slV_eq hok) (RdO_sv hw1 (.left (.skip .refl)) hok) hlen36)) ?_
    intro sv2 hok2
    refine d_ready (i := 4) (rs := []) (by kernel_rfl) (.left (.left .refl)) (all_one ?_)
    refine o_call rfl (no_guard rfl) ok_6 rfl rfl (fun w1 hw1 => out_plain hw1 (f6_any w1 (svA sv1) (svA sv2) (svC sv1) (svC sv2) (someL 5 ls) (d.tmod 4) (sumI (someL 5 ls)) (upI (decide (2 ≤ d.tmod 4)) (someL 5 ls)) (dnI (decide (2 ≤ d.tmod 4)) (someL 5 ls)) 0 _ _ (slV_eq hok1) (slV_eq hok2) (RdO_sv hw1 (.left .right) hok1) (RdO_sv hw1 .right hok2) hlen36)) ?_
    intro _ _
    refine d_val (i := 5) rfl (by kernel_rfl) (by kernel_rfl) (by kernel_rfl) (y_move rfl) rfl (no_guard rfl) rfl (fun _ _ _ h => h) ?_
    refine d_val (i := 6) rfl (by kernel_rfl) (by kernel_rfl) (by kernel_rfl) (y_loadN (vs := [_, _, _, _, _, _]) ld_24 rfl m0 rfl rfl) rfl (is_wanted rfl rfl rfl) rfl (fun _ _ _ h => h) ?_
    refine d_val (i := 8) rfl (by kernel_rfl) (by kernel_rfl) (by kernel_rfl) (y_loadN (vs := [_, _, _, _, _, _]) ld_24 rfl m0 rfl rfl) rfl (is_wanted rfl rfl rfl) rfl (fun _ _ _ h => h) ?_
    refine d_ready (i := 7) (rs := []) (by kernel_rfl) (.left (.left .refl)) (all_one ?_)
    refine o_call rfl (is_wanted rfl rfl rfl) ok_9 rfl rfl (out_new (fun w1 hw1 => f9_any w1 (svA sv) (svC sv) (someL 5 ls) (d.tmod 4) 7 8 9 10 _ (slV_eq hok) (slOk_cap hok) (RdO_sv hw1 (.left (.left (.skip .refl))) hok) hlen36 hd43 (inG_small (by omega)) (inG_small (by omega)) (inG_small (by omega)) (inG_small (by omega)) (someL_OB 5 ls) (fun g hg => ⟨(someL_pos 5 (by decide) ls g hg).1.1, (someL_pos 5 (by decide) ls g hg).2⟩) (someL_cl 5 ls))) ?_
    intro sv3 hok3
    rw [hs1]
    refine d_ready (i := 9) (rs := []) (by kernel_rfl) (.left (.left (.left .refl))) (all_one ?_)
    refine o_call rfl (is_wanted rfl rfl rfl) ok_10 rfl rfl (out_new (fun w1 hw1 => f10_any w1 (svA sv) (svC sv) (someL 5 ls) (d.tmod 4) 7 8 9 10 _ (slV_eq hok) (RdO_sv hw1 (.left (.left (.left (.skip .refl)))) hok) hlen36)) ?_
    intro sv4 hok4
    refine d_ready (i := 10) (rs := []) (by kernel_rfl) (.left (.left (.left (.left .refl)))) (all_one ?_)
    refine o_call rfl (is_wanted rfl rfl rfl) ok_6 rfl rfl (fun w1 hw1 => out_plain hw1 (f6_any w1 (svA sv3) (svA sv4) (svC sv3) (svC sv4) (someL 5 ls) (d.tmod 4) (sumI (someL 5 ls)) 8 9 10 _ _ (slV_eq hok3) (slV_eq hok4) (RdO_sv hw1 (.left .right) hok3) (RdO_sv hw1 .right hok4) hlen36)) ?_
    intro _ _
    refine d_val (i := 11) rfl (by kernel_rfl) (by kernel_rfl) (by kernel_rfl) (y_pick rfl rfl rfl) rfl (no_guard rfl) rfl (fun _ _ _ h => h) ?_
    refine d_val (i := 12) rfl (by kernel_rfl) (by kernel_rfl) (by kernel_rfl) (y_assign rfl) rfl (no_guard rfl) rfl (fun _ _ _ h => h) ?_
    refine d_end (by kernel_rfl) (.left (.left (.left (.left .refl)))) ?_
    refine q_then ?_
    refine c_ret ?_
    exact body_ret (rs := [.tmp 4]) rfl (vs := [.bool true]) ⟨rfl, trivial⟩ (out_end () trivial rfl .nil) _ (.inr rfl)

end Go.Proofs.Ytbepljmeflndkaa
