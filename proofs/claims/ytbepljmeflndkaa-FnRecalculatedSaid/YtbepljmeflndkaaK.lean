/- RecalculateRef. -/
import Derived.Test.YtbepljmeflndkaaE
namespace Go.Proofs.Ytbepljmeflndkaa
open Go.Eng
set_option maxRecDepth 100000
attribute [local irreducible] IntKind.wrap Int.tdiv Int.tmod Int.emod sm encO encG maxLen

set_option maxHeartbeats 4000000 in
theorem f8_any (w : World) (A : Option Addr) (cap : Nat) (gs : List OG) (dir ad up dn gp : Int) (v : Bool) (hv : decide (dir ≥ 2) = v) (gv : Value) (hgv : gv = .slice A gs.length cap) (hR : RdO w A gs) (hlen : gs.length ≤ 1000) :
    Calls Try.prog 8 [Value.agg (uC dir ad up dn gp gv).toArray].toArray w (Out w [] (fun sv : Sv => slOk sv gs.length 10 (encO gs)) (fun sv => .agg (uC dir (sumI gs) (upI v gs) (dnI v gs) 0 (slV sv gs.length)).toArray) (fun sv => slH sv (encO gs) 38)) := by
  refine enter (n := 60) Try.func8 rfl rfl rfl (Hp.refl w) ?_
  refine c_seq ?_
  -- region 0
  refine c_region ?_
  refine l_gives rfl rfl (g_box (vs := [_, _, _, _, _, _]) rfl rfl) rfl ?_
  intro b1 hb1
  refine l_gives rfl rfl (g_alloc ze_24) rfl ?_
  intro b2 hb2
  refine l_nil ?_
  refine q_then ?_
  refine c_seq ?_
  -- region 1
  refine c_region ?_
  refine l_val (y_loadN (vs := [_, _, _, _, _, _]) ld_24 rfl m1 rfl rfl) rfl rfl rfl ?_
  refine l_call ok_10 rfl rfl (out_new (fun w1 hw1 => f10_any w1 A cap gs dir ad up dn gp gv hgv (hR.keep hw1) hlen)) ?_
  intro sv hok
  refine l_does rfl rfl (g_storeN (vs := [_, _, _, _, _, _]) (cs' := [_, _, _, _, _, _]) sz_24 rfl rfl rfl rfl rfl (uC_one _ _ _ _ _ _ _) rfl (.there .here)) ?_
  intro _ _
  refine l_nil ?_
  refine q_then ?_
  refine c_seq ?_
  -- region 2
  refine c_region ?_
  refine l_val (y_fieldAddr fo_24_2 rfl) rfl rfl rfl ?_
  refine l_does rfl rfl (g_store1 (cs' := [_, _, _, _, _, _]) sz_3 rfl rfl rfl rfl rfl rfl (.there .here)) ?_
  intro _ _
  refine l_val (y_fieldAddr fo_24_3 rfl) rfl rfl rfl ?_
  refine l_does rfl rfl (g_store1 (cs' := [_, _, _, _, _, _]) sz_3 rfl rfl rfl rfl rfl rfl (.there .here)) ?_
  intro _ _
  refine l_val (y_fieldAddr fo_24_4 rfl) rfl rfl rfl ?_
  refine l_does rfl rfl (g_store1 (cs' := [_, _, _, _, _, _]) sz_3 rfl rfl rfl rfl rfl rfl (.there .here)) ?_
  intro _ _
  refine l_nil ?_
  refine q_then ?_
  refine c_seq ?_
  refine c_seq ?_
  -- region 3
  refine c_region ?_
  refine l_val (y_fieldAddr fo_24_5 rfl) rfl rfl rfl ?_
  refine l_val (y_load1 ld_22 rfl m1 rfl) rfl rfl rfl ?_
  refine l_val (y_lenSv sl_22 rfl hok.nil) rfl rfl rfl ?_
  refine l_val (y_move rfl) rfl rfl rfl ?_
  refine l_nil ?_
  refine q_then ?_
  refine c_block ?_
  refine c_loop (ι := Nat) (φ := fun k => k ≤ gs.length) (L' := fun k => [(1, .pointer (some ⟨b1, 0, none⟩)), (2, .pointer (some ⟨b2, 0, none⟩)), (13, slV sv gs.length), (14, .int .i64 (gs.length : Int)), (15, .int .i64 (k : Int))]) (H' := fun k => (b1, uC dir (sumI gs) (upI v (gs.take k)) (dnI v (gs.take k)) 0 (slV sv gs.length), 24) :: (b2, uC 0 0 0 0 0 (.slice none 0 0), 24) :: slH sv (encO gs) 38) (fun k => gs.length - k) 0 (Nat.zero_le _) ⟨rfl, rfl, rfl, rfl, rfl, trivial⟩ (.cons (.there .here) (.cons .here .refl)) ?_
  intro k hk
  refine c_seq ?_
  -- region 4
  refine c_region ?_
  refine l_val (y_bin rfl rfl rfl rfl) rfl rfl rfl ?_
  refine l_nil ?_
  refine q_then ?_
  refine c_seq ?_
  refine c_cond rfl (fun hc16 => ?_) (fun hc16 => ?_)
  · skip
    obtain ⟨g, hg⟩ := some_at (l := gs) (k := k) (by simpa using hc16)
    have hk2 : k < gs.length := by simpa using hc16
    obtain _ | ⟨bG, sp, cap1⟩ := sv
    · exact absurd hok.2 (by simp only; omega)
    refine c_skip ?_
    refine q_then ?_
    refine c_seq ?_
    refine c_block ?_
    refine c_seq ?_
    -- region 5
    refine c_region ?_
    refine l_val (y_indexAddrOwn es_22 rfl rfl hk2) rfl rfl rfl ?_
    refine l_val (y_loadN (vs := OG.cells g) ld_38 rfl m2 (encO_at hg) rfl) rfl rfl rfl ?_
    refine l_gives rfl rfl (g_alloc ze_38) rfl ?_
    intro b4 hb4
    refine l_does rfl rfl (g_storeN (vs := [_, _, _, _, _, _, _, _, _, _]) (cs' := [_, _, _, _, _, _, _, _, _, _]) sz_38 rfl rfl rfl rfl rfl rfl rfl .here) ?_
    intro _ _
    refine l_nil ?_
    refine q_then ?_
    refine c_seq ?_
    -- region 6
    refine c_drawH mixed rfl ?_
    refine d_val (i := 0) rfl (by kernel_rfl) (by kernel_rfl) (by kernel_rfl) (y_fieldAddr fo_38_3 rfl) rfl (no_guard rfl) rfl (fun _ _ _ h => h) ?_
    refine d_val (i := 1) rfl (by kernel_rfl) (by kernel_rfl) (by kernel_rfl) (y_load1 ld_3 rfl m0 rfl) rfl (no_guard rfl) rfl (fun _ _ _ h => h) ?_
    refine d_val (i := 2) rfl (by kernel_rfl) (by kernel_rfl) (by kernel_rfl) (y_fieldAddr fo_38_6 rfl) rfl (no_guard rfl) rfl (fun _ _ _ h => h) ?_
    refine d_val (i := 3) rfl (by kernel_rfl) (by kernel_rfl) (by kernel_rfl) (y_load1 ld_3 rfl m0 rfl) rfl (no_guard rfl) rfl (fun _ _ _ h => h) ?_
    refine d_val (i := 4) rfl (by kernel_rfl) (by kernel_rfl) (by kernel_rfl) (y_bin rfl rfl rfl rfl) rfl (no_guard rfl) rfl (fun _ _ _ h => h) ?_
    refine d_val (i := 5) rfl (by kernel_rfl) (by kernel_rfl) (by kernel_rfl) (y_fieldAddr fo_38_3 rfl) rfl (no_guard rfl) rfl (fun _ _ _ h => h) ?_
    refine d_val (i := 6) rfl (by kernel_rfl) (by kernel_rfl) (by kernel_rfl) (y_load1 ld_3 rfl m0 rfl) rfl (no_guard rfl) rfl (fun _ _ _ h => h) ?_
    refine d_val (i := 7) rfl (by kernel_rfl) (by kernel_rfl) (by kernel_rfl) (y_fieldAddr fo_38_6 rfl) rfl (no_guard rfl) rfl (fun _ _ _ h => h) ?_
    refine d_val (i := 8) rfl (by kernel_rfl) (by kernel_rfl) (by kernel_rfl) (y_load1 ld_3 rfl m0 rfl) rfl (no_guard rfl) rfl (fun _ _ _ h => h) ?_
    refine d_val (i := 9) rfl (by kernel_rfl) (by kernel_rfl) (by kernel_rfl) (y_bin rfl rfl rfl rfl) rfl (no_guard rfl) rfl (fun _ _ _ h => h) ?_
    refine d_val (i := 10) rfl (by kernel_rfl) (by kernel_rfl) (by kernel_rfl) (y_fieldAddr fo_38_1 rfl) rfl (no_guard rfl) rfl (fun _ _ _ h => h) ?_
    refine d_val (i := 11) rfl (by kernel_rfl) (by kernel_rfl) (by kernel_rfl) (y_load1 ld_3 rfl m0 rfl) rfl (no_guard rfl) rfl (fun _ _ _ h => h) ?_
    refine d_val (i := 12) rfl (by kernel_rfl) (by kernel_rfl) (by kernel_rfl) (y_bin rfl rfl rfl rfl) rfl (no_guard rfl) rfl (fun _ _ _ h => h) ?_
    refine d_val (i := 13) rfl (by kernel_rfl) (by kernel_rfl) (by kernel_rfl) (y_assign rfl) rfl (no_guard rfl) rfl (fun _ _ _ h => h) ?_
    refine d_val (i := 14) rfl (by kernel_rfl) (by kernel_rfl) (by kernel_rfl) (y_assign rfl) rfl (no_guard rfl) rfl (fun _ _ _ h => h) ?_
    refine d_end (by kernel_rfl) (.cons .here (.cons .here (.cons .here (.cons .here .nil)))) ?_
    refine q_then ?_
    refine c_seq ?_
    refine c_seq ?_
    -- region 7
    refine c_region ?_
    refine l_val (y_fieldAddr fo_24_0 rfl) rfl rfl rfl ?_
    refine l_val (y_load1 ld_3 rfl m1 rfl) rfl rfl rfl ?_
    refine l_val (y_bin rfl rfl rfl rfl) rfl rfl rfl ?_
    refine l_nil ?_
    refine q_then ?_
    refine c_cond rfl (fun hc34 => ?_) (fun hc34 => ?_)
    · skip
      have hv2 : v = true := by rw [← hv]; exact hc34
      subst hv2
      -- region 8
      refine c_drawH mixed rfl ?_
      refine d_val (i := 0) rfl (by kernel_rfl) (by kernel_rfl) (by kernel_rfl) (y_fieldAddr fo_38_2 rfl) rfl (no_guard rfl) rfl (fun _ _ _ h => h) ?_
      refine d_val (i := 1) rfl (by kernel_rfl) (by kernel_rfl) (by kernel_rfl) (y_load1 ld_3 rfl m0 rfl) rfl (no_guard rfl) rfl (fun _ _ _ h => h) ?_
      refine d_val (i := 2) rfl (by kernel_rfl) (by kernel_rfl) (by kernel_rfl) (y_fieldAddr fo_38_5 rfl) rfl (no_guard rfl) rfl (fun _ _ _ h => h) ?_
      refine d_val (i := 3) rfl (by kernel_rfl) (by kernel_rfl) (by kernel_rfl) (y_load1 ld_3 rfl m0 rfl) rfl (no_guard rfl) rfl (fun _ _ _ h => h) ?_
      refine d_val (i := 4) rfl (by kernel_rfl) (by kernel_rfl) (by kernel_rfl) (y_bin rfl rfl rfl rfl) rfl (no_guard rfl) rfl (fun _ _ _ h => h) ?_
      refine d_val (i := 5) rfl (by kernel_rfl) (by kernel_rfl) (by kernel_rfl) (y_fieldAddr fo_38_0 rfl) rfl (no_guard rfl) rfl (fun _ _ _ h => h) ?_
      refine d_val (i := 6) rfl (by kernel_rfl) (by kernel_rfl) (by kernel_rfl) (y_load1 ld_3 rfl m0 rfl) rfl (no_guard rfl) rfl (fun _ _ _ h => h) ?_
      refine d_val (i := 7) rfl (by kernel_rfl) (by kernel_rfl) (by kernel_rfl) (y_bin rfl rfl rfl rfl) rfl (no_guard rfl) rfl (fun _ _ _ h => h) ?_
      refine d_val (i := 8) rfl (by kernel_rfl) (by kernel_rfl) (by kernel_rfl) (y_fieldAddr fo_38_2 rfl) rfl (no_guard rfl) rfl (fun _ _ _ h => h) ?_
      refine d_val (i := 9) rfl (by kernel_rfl) (by kernel_rfl) (by kernel_rfl) (y_load1 ld_3 rfl m0 rfl) rfl (no_guard rfl) rfl (fun _ _ _ h => h) ?_
      refine d_val (i := 10) rfl (by kernel_rfl) (by kernel_rfl) (by kernel_rfl) (y_fieldAddr fo_38_5 rfl) rfl (no_guard rfl) rfl (fun _ _ _ h => h) ?_
      refine d_val (i := 11) rfl (by kernel_rfl) (by kernel_rfl) (by kernel_rfl) (y_load1 ld_3 rfl m0 rfl) rfl (no_guard rfl) rfl (fun _ _ _ h => h) ?_
      refine d_val (i := 12) rfl (by kernel_rfl) (by kernel_rfl) (by kernel_rfl) (y_bin rfl rfl rfl rfl) rfl (no_guard rfl) rfl (fun _ _ _ h => h) ?_
      refine d_val (i := 13) rfl (by kernel_rfl) (by kernel_rfl) (by kernel_rfl) (y_assign rfl) rfl (no_guard rfl) rfl (fun _ _ _ h => h) ?_
      refine d_val (i := 14) rfl (by kernel_rfl) (by kernel_rfl) (by kernel_rfl) (y_assign rfl) rfl (no_guard rfl) rfl (fun _ _ _ h => h) ?_
      refine d_end (by kernel_rfl) (.cons .here (.cons .here (.cons .here (.cons .here .nil)))) ?_
      refine q_then ?_
      -- region 9
      refine c_region ?_
      refine l_val (y_fieldAddr fo_24_2 rfl) rfl rfl rfl ?_
      refine l_val (y_load1 ld_3 rfl m1 rfl) rfl rfl rfl ?_
      refine l_val (y_move rfl) rfl rfl rfl ?_
      refine l_val (y_maxE rfl rfl (by first | exact upI_stepT hg | exact upI_stepF hg)) rfl rfl rfl ?_
      refine l_val (y_fieldAddr fo_24_3 rfl) rfl rfl rfl ?_
      refine l_val (y_load1 ld_3 rfl m1 rfl) rfl rfl rfl ?_
      refine l_val (y_move rfl) rfl rfl rfl ?_
      refine l_val (y_minE rfl rfl (by first | exact dnI_stepT hg | exact dnI_stepF hg)) rfl rfl rfl ?_
      refine l_val (y_fieldAddr fo_24_2 rfl) rfl rfl rfl ?_
      refine l_does rfl rfl (g_store1 (cs' := [_, _, _, _, _, _]) sz_3 rfl rfl rfl rfl rfl rfl (.there .here)) ?_
      intro _ _
      refine l_val (y_fieldAddr fo_24_3 rfl) rfl rfl rfl ?_
      refine l_does rfl rfl (g_store1 (cs' := [_, _, _, _, _, _]) sz_3 rfl rfl rfl rfl rfl rfl (.there .here)) ?_
      intro _ _
      refine l_nil ?_
      refine q_block ?_
      refine q_then ?_
      -- region 10
      refine c_region ?_
      refine l_val (y_bin rfl rfl rfl (fitN (m := k + 1) (by omega) (by omega))) rfl rfl rfl ?_
      refine l_val (y_move rfl) rfl rfl rfl ?_
      refine l_nil ?_
      exact q_rnd (k + 1) hk2 (by omega) ⟨rfl, rfl, rfl, rfl, rfl, trivial⟩ (.cons (.there .here) (.cons (.there .here) (.cons (.there .here) .nil)))
    · skip
      have hv2 : v = false := by rw [← hv]; exact hc34
      subst hv2
      refine c_skip ?_
      refine q_then ?_
      -- region 9
      refine c_region ?_
      refine l_val (y_fieldAddr fo_24_2 rfl) rfl rfl rfl ?_
      refine l_val (y_load1 ld_3 rfl m1 rfl) rfl rfl rfl ?_
      refine l_val (y_move rfl) rfl rfl rfl ?_
      refine l_val (y_maxE rfl rfl (by first | exact upI_stepT hg | exact upI_stepF hg)) rfl rfl rfl ?_
      refine l_val (y_fieldAddr fo_24_3 rfl) rfl rfl rfl ?_
      refine l_val (y_load1 ld_3 rfl m1 rfl) rfl rfl rfl ?_
      refine l_val (y_move rfl) rfl rfl rfl ?_
      refine l_val (y_minE rfl rfl (by first | exact dnI_stepT hg | exact dnI_stepF hg)) rfl rfl rfl ?_
      refine l_val (y_fieldAddr fo_24_2 rfl) rfl rfl rfl ?_
      refine l_does rfl rfl (g_store1 (cs' := [_, _, _, _, _, _]) sz_3 rfl rfl rfl rfl rfl rfl (.there .here)) ?_
      intro _ _
      refine l_val (y_fieldAddr fo_24_3 rfl) rfl rfl rfl ?_
      refine l_does rfl rfl (g_store1 (cs' := [_, _, _, _, _, _]) sz_3 rfl rfl rfl rfl rfl rfl (.there .here)) ?_
      intro _ _
      refine l_nil ?_
      refine q_block ?_
      refine q_then ?_
      -- region 10
      refine c_region ?_
      refine l_val (y_bin rfl rfl rfl (fitN (m := k + 1) (by omega) (by omega))) rfl rfl rfl ?_
      refine l_val (y_move rfl) rfl rfl rfl ?_
      refine l_nil ?_
      exact q_rnd (k + 1) hk2 (by omega) ⟨rfl, rfl, rfl, rfl, rfl, trivial⟩ (.cons (.there .here) (.cons (.there .here) (.cons (.there .here) .nil)))
  · skip
    have hk2 : k = gs.length := by simp at hc16; omega
    subst hk2
    rw [List.take_length]
    refine c_exit ?_
    refine q_then_exit ?_
    refine q_rnd_exit ?_
    refine q_block_exit ?_
    refine q_then ?_
    refine c_seq ?_
    -- region 11
    refine c_region ?_
    refine l_val (y_loadN (vs := [_, _, _, _, _, _]) ld_24 rfl m0 rfl rfl) rfl rfl rfl ?_
    refine l_does rfl rfl (g_storeN (vs := [_, _, _, _, _, _]) (cs' := [_, _, _, _, _, _]) sz_24 rfl rfl rfl rfl rfl (uC_one _ _ _ _ _ _ _) rfl (.there .here)) ?_
    intro _ _
    refine l_nil ?_
    refine q_then ?_
    refine c_ret ?_
    exact body_ret (rs := [.cell 2 24]) rfl (vs := [.agg (uC dir (sumI gs) (upI v gs) (dnI v gs) 0 (slV sv gs.length)).toArray]) ⟨⟨b2, 0, _, _, rfl, m1, .inr ⟨6, _, ld_24, rfl, rfl, rfl⟩⟩, trivial⟩ (out_end sv hok rfl (.skip (.skip .refl))) _ (.inr rfl)

end Go.Proofs.Ytbepljmeflndkaa
