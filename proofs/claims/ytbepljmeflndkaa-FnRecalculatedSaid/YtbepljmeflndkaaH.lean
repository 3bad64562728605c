/- RecalculateAll. -/
import Derived.Test.YtbepljmeflndkaaA
import Derived.Test.YtbepljmeflndkaaD
import Derived.Test.YtbepljmeflndkaaF
namespace Go.Proofs.Ytbepljmeflndkaa
open Go.Eng
set_option maxRecDepth 100000
attribute [local irreducible] IntKind.wrap Int.tdiv Int.tmod Int.emod sm encO encG maxLen

set_option maxHeartbeats 2000000 in
theorem f20_any (w : World) (bO : Nat) (ad up dn gp dir : Int) (v : Bool) (hdir : 0 ≤ dir ∧ dir ≤ 3) (hv : decide (2 ≤ dir) = v) (sv : Sv) (gs : List GL) (hok : slOk sv gs.length 16 (encG gs)) (hlen : gs.length ≤ 1000000)
    (hw : Hp w (((bO, oC ad up dn gp dir (slV sv gs.length), 53) :: slH sv (encG gs) 67).map (·.1)) ((bO, oC ad up dn gp dir (slV sv gs.length), 53) :: slH sv (encG gs) 67) w) :
    Calls Try.prog 20 [Value.pointer (some ⟨bO, 0, none⟩)].toArray w (Out w (((bO, oC ad up dn gp dir (slV sv gs.length), 53) :: slH sv (encG gs) 67).map (·.1)) (fun _ : Unit => True) (fun _ => .tuple #[])
      (fun _ => (bO, oC (sumW gs) (upW v gs) (dnW v gs) 0 dir (slV sv gs.length), 53) :: slH sv (encG gs) 67)) := by
  refine enter (n := 116) Try.func20 rfl rfl rfl hw ?_
  refine c_seq ?_
  -- region 0
  refine c_region ?_
  refine l_val (y_assign rfl) rfl rfl rfl ?_
  refine l_nil ?_
  refine q_then ?_
  refine c_seq ?_
  -- region 1
  refine c_region ?_
  refine l_val (y_assign rfl) rfl rfl rfl ?_
  refine l_nil ?_
  refine q_then ?_
  refine c_seq ?_
  -- region 2
  refine c_region ?_
  refine l_val (y_assign rfl) rfl rfl rfl ?_
  refine l_nil ?_
  refine q_then ?_
  refine c_seq ?_
  refine c_seq ?_
  -- region 3
  refine c_region ?_
  refine l_val (y_move rfl) rfl rfl rfl ?_
  refine l_val (y_nilCheck rfl) rfl rfl rfl ?_
  refine l_val (y_fieldAddr fo_53_5 rfl) rfl rfl rfl ?_
  refine l_val (y_load1 ld_48 rfl m0 rfl) rfl rfl rfl ?_
  refine l_call ok_32 rfl rfl (out_calm (fun w1 => f32_any dir hdir w1)) ?_
  intro _ _
  refine l_nil ?_
  refine q_then ?_
  refine c_cond rfl (fun hc17 => ?_) (fun hc17 => ?_)
  · skip
    have hv2 : v = true := by rw [← hv]; exact hc17
    subst hv2
    refine c_seq ?_
    -- region 4
    refine c_region ?_
    refine l_val (y_move rfl) rfl rfl rfl ?_
    refine l_val (y_nilCheck rfl) rfl rfl rfl ?_
    refine l_val (y_fieldAddr fo_53_2 rfl) rfl rfl rfl ?_
    refine l_val (y_load1 ld_45 rfl m0 rfl) rfl rfl rfl ?_
    refine l_val (y_lenSv sl_45 rfl hok.nil) rfl rfl rfl ?_
    refine l_val (y_move rfl) rfl rfl rfl ?_
    refine l_nil ?_
    refine q_then ?_
    refine c_block ?_
    refine c_loop (ι := Nat) (φ := fun k => k ≤ gs.length) (L' := fun k => [(0, .pointer (some ⟨bO, 0, none⟩)), (2, .int .i32 (sumW (gs.take k))), (3, .int .i32 (upW true (gs.take k))), (4, .int .i32 (dnW true (gs.take k))), (22, .int .i64 (gs.length : Int)), (23, .int .i64 (k : Int))]) (H' := fun _ => (bO, oC ad up dn gp dir (slV sv gs.length), 53) :: slH sv (encG gs) 67) (fun k => gs.length - k) 0 (Nat.zero_le _) ⟨rfl, rfl, rfl, rfl, rfl, rfl, trivial⟩ (.cons .here .refl) ?_
    intro k hk
    refine c_seq ?_
    -- region 5
    refine c_region ?_
    refine l_val (y_bin rfl rfl rfl rfl) rfl rfl rfl ?_
    refine l_nil ?_
    refine q_then ?_
    refine c_seq ?_
    refine c_cond rfl (fun hc24 => ?_) (fun hc24 => ?_)
    · skip
      obtain ⟨g, hg⟩ := some_at (l := gs) (k := k) (by simpa using hc24)
      have hk2 : k < gs.length := by simpa using hc24
      obtain _ | ⟨bG, sp, cap1⟩ := sv
      · exact absurd hok.2 (by simp only; omega)
      refine c_skip ?_
      refine q_then ?_
      refine c_seq ?_
      refine c_block ?_
      refine c_seq ?_
      -- region 6
      refine c_region ?_
      refine l_val (y_move rfl) rfl rfl rfl ?_
      refine l_val (y_assign rfl) rfl rfl rfl ?_
      refine l_nil ?_
      refine q_then ?_
      refine c_seq ?_
      -- region 7
      refine c_region ?_
      refine l_val (y_move rfl) rfl rfl rfl ?_
      refine l_val (y_nilCheck rfl) rfl rfl rfl ?_
      refine l_val (y_fieldAddr fo_53_2 rfl) rfl rfl rfl ?_
      refine l_val (y_load1 ld_45 rfl m0 rfl) rfl rfl rfl ?_
      refine l_val (y_move rfl) rfl rfl rfl ?_
      refine l_val (y_indexAddrOwn es_45 rfl rfl hk2) rfl rfl rfl ?_
      refine l_val (y_assign rfl) rfl rfl rfl ?_
      refine l_nil ?_
      refine q_then ?_
      refine c_seq ?_
      -- region 8
      refine c_region ?_
      refine l_val (y_move rfl) rfl rfl rfl ?_
      refine l_val (y_move rfl) rfl rfl rfl ?_
      refine l_val (y_nilCheck rfl) rfl rfl rfl ?_
      refine l_val (y_fieldAddr fo_67_4 rfl) rfl rfl rfl ?_
      refine l_val (y_load1 ld_44 rfl m1 (encG_get hg rfl)) rfl rfl rfl ?_
      refine l_val (y_bin rfl rfl rfl (sumW_step hg)) rfl rfl rfl ?_
      refine l_val (y_assign rfl) rfl rfl rfl ?_
      refine l_nil ?_
      refine q_then ?_
      refine c_seq ?_
      -- region 9
      refine c_drawH mixed rfl ?_
      refine d_val (i := 0) rfl (by kernel_rfl) (by kernel_rfl) (by kernel_rfl) (y_move rfl) rfl (no_guard rfl) rfl (fun _ _ _ h => h) ?_
      refine d_val (i := 1) rfl (by kernel_rfl) (by kernel_rfl) (by kernel_rfl) (y_nilCheck rfl) rfl (no_guard rfl) rfl (fun _ _ _ h => h) ?_
      refine d_val (i := 2) rfl (by kernel_rfl) (by kernel_rfl) (by kernel_rfl) (y_fieldAddr fo_67_7 rfl) rfl (no_guard rfl) rfl (fun _ _ _ h => h) ?_
      refine d_val (i := 3) rfl (by kernel_rfl) (by kernel_rfl) (by kernel_rfl) (y_load1 ld_44 rfl m1 (encG_get hg rfl)) rfl (no_guard rfl) rfl (fun _ _ _ h => h) ?_
      refine d_val (i := 4) rfl (by kernel_rfl) (by kernel_rfl) (by kernel_rfl) (y_move rfl) rfl (no_guard rfl) rfl (fun _ _ _ h => h) ?_
      refine d_val (i := 5) rfl (by kernel_rfl) (by kernel_rfl) (by kernel_rfl) (y_nilCheck rfl) rfl (no_guard rfl) rfl (fun _ _ _ h => h) ?_
      refine d_val (i := 6) rfl (by kernel_rfl) (by kernel_rfl) (by kernel_rfl) (y_fieldAddr fo_67_2 rfl) rfl (no_guard rfl) rfl (fun _ _ _ h => h) ?_
      refine d_val (i := 7) rfl (by kernel_rfl) (by kernel_rfl) (by kernel_rfl) (y_load1 ld_44 rfl m1 (encG_get hg rfl)) rfl (no_guard rfl) rfl (fun _ _ _ h => h) ?_
      refine d_val (i := 8) rfl (by kernel_rfl) (by kernel_rfl) (by kernel_rfl) (y_bin rfl rfl rfl rfl) rfl (no_guard rfl) rfl (fun _ _ _ h => h) ?_
      refine d_val (i := 9) rfl (by kernel_rfl) (by kernel_rfl) (by kernel_rfl) (y_assign rfl) rfl (no_guard rfl) rfl (fun _ _ _ h => h) ?_
      refine d_end (by kernel_rfl) (.cons .here (.cons .here .nil)) ?_
      refine q_then ?_
      refine c_seq ?_
      refine c_seq ?_
      -- region 10
      refine c_region ?_
      refine l_val (y_move rfl) rfl rfl rfl ?_
      refine l_val (y_move rfl) rfl rfl rfl ?_
      refine l_val (y_bin rfl rfl rfl rfl) rfl rfl rfl ?_
      refine l_nil ?_
      refine q_then ?_
      refine c_cond rfl (fun hc49 => ?_) (fun hc49 => ?_)
      · skip
        -- region 11
        refine c_region ?_
        refine l_val (y_move rfl) rfl rfl rfl ?_
        refine l_val (y_assign rfl) rfl rfl rfl ?_
        refine l_nil ?_
        refine q_then ?_
        refine c_seq ?_
        -- region 12
        refine c_region ?_
        refine l_val (y_move rfl) rfl rfl rfl ?_
        refine l_val (y_move rfl) rfl rfl rfl ?_
        refine l_val (y_nilCheck rfl) rfl rfl rfl ?_
        refine l_val (y_fieldAddr fo_67_0 rfl) rfl rfl rfl ?_
        refine l_val (y_load1 ld_44 rfl m1 (encG_get hg rfl)) rfl rfl rfl ?_
        refine l_val (y_bin rfl rfl rfl rfl) rfl rfl rfl ?_
        refine l_val (y_assign rfl) rfl rfl rfl ?_
        refine l_nil ?_
        refine q_then ?_
        refine c_seq ?_
        -- region 13
        refine c_region ?_
        refine l_val (y_move rfl) rfl rfl rfl ?_
        refine l_val (y_move rfl) rfl rfl rfl ?_
        refine l_val (y_bin rfl rfl rfl rfl) rfl rfl rfl ?_
        refine l_nil ?_
        refine q_then ?_
        refine c_cond rfl (fun hc59 => ?_) (fun hc59 => ?_)
        · skip
          -- region 14
          refine c_region ?_
          refine l_val (y_move rfl) rfl rfl rfl ?_
          refine l_val (y_assign rfl) rfl rfl rfl ?_
          refine l_nil ?_
          refine q_block ?_
          refine q_then ?_
          -- region 15
          refine c_region ?_
          refine l_val (y_bin rfl rfl rfl (fitN (m := k + 1) (by omega) (by omega))) rfl rfl rfl ?_
          refine l_val (y_move rfl) rfl rfl rfl ?_
          refine l_nil ?_
          exact q_rnd (k + 1) hk2 (by omega) ⟨rfl, rfl, (by first | exact up_t hg hc59 | exact up_f hg hc59), (by first | exact dn_t hg hc49 | exact dn_f hg hc49), rfl, rfl, trivial⟩ (.cons .here (.cons .here .nil))
        · skip
          refine c_skip ?_
          refine q_block ?_
          refine q_then ?_
          -- region 15
          refine c_region ?_
          refine l_val (y_bin rfl rfl rfl (fitN (m := k + 1) (by omega) (by omega))) rfl rfl rfl ?_
          refine l_val (y_move rfl) rfl rfl rfl ?_
          refine l_nil ?_
          exact q_rnd (k + 1) hk2 (by omega) ⟨rfl, rfl, (by first | exact up_t hg hc59 | exact up_f hg hc59), (by first | exact dn_t hg hc49 | exact dn_f hg hc49), rfl, rfl, trivial⟩ (.cons .here (.cons .here .nil))
      · skip
        refine c_skip ?_
        refine q_then ?_
        refine c_seq ?_
        -- region 12
        refine c_region ?_
        refine l_val (y_move rfl) rfl rfl rfl ?_
        refine l_val (y_move rfl) rfl rfl rfl ?_
        refine l_val (y_nilCheck rfl) rfl rfl rfl ?_
        refine l_val (y_fieldAddr fo_67_0 rfl) rfl rfl rfl ?_
        refine l_val (y_load1 ld_44 rfl m1 (encG_get hg rfl)) rfl rfl rfl ?_
        refine l_val (y_bin rfl rfl rfl rfl) rfl rfl rfl ?_
        refine l_val (y_assign rfl) rfl rfl rfl ?_
        refine l_nil ?_
        refine q_then ?_
        refine c_seq ?_
        -- region 13
        refine c_region ?_
        refine l_val (y_move rfl) rfl rfl rfl ?_
        refine l_val (y_move rfl) rfl rfl rfl ?_
        refine l_val (y_bin rfl rfl rfl rfl) rfl rfl rfl ?_
        refine l_nil ?_
        refine q_then ?_
        refine c_cond rfl (fun hc59 => ?_) (fun hc59 => ?_)
        · skip
          -- region 14
          refine c_region ?_
          refine l_val (y_move rfl) rfl rfl rfl ?_
          refine l_val (y_assign rfl) rfl rfl rfl ?_
          refine l_nil ?_
          refine q_block ?_
          refine q_then ?_
          -- region 15
          refine c_region ?_
          refine l_val (y_bin rfl rfl rfl (fitN (m := k + 1) (by omega) (by omega))) rfl rfl rfl ?_
          refine l_val (y_move rfl) rfl rfl rfl ?_
          refine l_nil ?_
          exact q_rnd (k + 1) hk2 (by omega) ⟨rfl, rfl, (by first | exact up_t hg hc59 | exact up_f hg hc59), (by first | exact dn_t hg hc49 | exact dn_f hg hc49), rfl, rfl, trivial⟩ (.cons .here (.cons .here .nil))
        · skip
          refine c_skip ?_
          refine q_block ?_
          refine q_then ?_
          -- region 15
          refine c_region ?_
          refine l_val (y_bin rfl rfl rfl (fitN (m := k + 1) (by omega) (by omega))) rfl rfl rfl ?_
          refine l_val (y_move rfl) rfl rfl rfl ?_
          refine l_nil ?_
          exact q_rnd (k + 1) hk2 (by omega) ⟨rfl, rfl, (by first | exact up_t hg hc59 | exact up_f hg hc59), (by first | exact dn_t hg hc49 | exact dn_f hg hc49), rfl, rfl, trivial⟩ (.cons .here (.cons .here .nil))
    · skip
      have hk2 : k = gs.length := by simp at hc24; omega
      subst hk2
      rw [List.take_length]
      refine c_exit ?_
      refine q_then_exit ?_
      refine q_rnd_exit ?_
      refine q_block_exit ?_
      refine q_then ?_
      refine c_seq ?_
      -- region 28
      refine c_region ?_
      refine l_val (y_move rfl) rfl rfl rfl ?_
      refine l_val (y_move rfl) rfl rfl rfl ?_
      refine l_val (y_nilCheck rfl) rfl rfl rfl ?_
      refine l_val (y_fieldAddr fo_53_0 rfl) rfl rfl rfl ?_
      refine l_does rfl rfl (g_store1 sz_44 rfl rfl rfl rfl rfl rfl .here) ?_
      intro _ _
      refine l_nil ?_
      refine q_then ?_
      -- region 29
      refine c_region ?_
      refine l_val (y_move rfl) rfl rfl rfl ?_
      refine l_val (y_move rfl) rfl rfl rfl ?_
      refine l_val (y_move rfl) rfl rfl rfl ?_
      refine l_val (y_build1 (out := [_, _, _]) bp_47 rfl rfl rfl) rfl rfl rfl ?_
      refine l_val (y_nilCheck rfl) rfl rfl rfl ?_
      refine l_val (y_fieldAddr fo_53_4 rfl) rfl rfl rfl ?_
      refine l_does rfl rfl (g_storeN (vs := [_, _, _]) sz_47 rfl rfl rfl rfl rfl rfl rfl .here) ?_
      intro _ _
      refine l_nil ?_
      exact body_ret (rs := []) rfl (vs := []) trivial (out_end () trivial rfl (.cons .here .refl)) _ (.inl rfl)
  · skip
    have hv2 : v = false := by rw [← hv]; exact hc17
    subst hv2
    refine c_seq ?_
    -- region 16
    refine c_region ?_
    refine l_val (y_move rfl) rfl rfl rfl ?_
    refine l_val (y_nilCheck rfl) rfl rfl rfl ?_
    refine l_val (y_fieldAddr fo_53_2 rfl) rfl rfl rfl ?_
    refine l_val (y_load1 ld_45 rfl m0 rfl) rfl rfl rfl ?_
    refine l_val (y_lenSv sl_45 rfl hok.nil) rfl rfl rfl ?_
    refine l_val (y_move rfl) rfl rfl rfl ?_
    refine l_nil ?_
    refine q_then ?_
    refine c_block ?_
    refine c_loop (ι := Nat) (φ := fun k => k ≤ gs.length) (L' := fun k => [(0, .pointer (some ⟨bO, 0, none⟩)), (2, .int .i32 (sumW (gs.take k))), (3, .int .i32 (upW false (gs.take k))), (4, .int .i32 (dnW false (gs.take k))), (66, .int .i64 (gs.length : Int)), (67, .int .i64 (k : Int))]) (H' := fun _ => (bO, oC ad up dn gp dir (slV sv gs.length), 53) :: slH sv (encG gs) 67) (fun k => gs.length - k) 0 (Nat.zero_le _) ⟨rfl, rfl, rfl, rfl, rfl, rfl, trivial⟩ (.cons .here .refl) ?_
    intro k hk
    refine c_seq ?_
    -- region 17
    refine c_region ?_
    refine l_val (y_bin rfl rfl rfl rfl) rfl rfl rfl ?_
    refine l_nil ?_
    refine q_then ?_
    refine c_seq ?_
    refine c_cond rfl (fun hc68 => ?_) (fun hc68 => ?_)
    · skip
      obtain ⟨g, hg⟩ := some_at (l := gs) (k := k) (by simpa using hc68)
      have hk2 : k < gs.length := by simpa using hc68
      obtain _ | ⟨bG, sp, cap1⟩ := sv
      · exact absurd hok.2 (by simp only; omega)
      refine c_skip ?_
      refine q_then ?_
      refine c_seq ?_
      refine c_block ?_
      refine c_seq ?_
      -- region 18
      refine c_region ?_
      refine l_val (y_move rfl) rfl rfl rfl ?_
      refine l_val (y_assign rfl) rfl rfl rfl ?_
      refine l_nil ?_
      refine q_then ?_
      refine c_seq ?_
      -- region 19
      refine c_region ?_
      refine l_val (y_move rfl) rfl rfl rfl ?_
      refine l_val (y_nilCheck rfl) rfl rfl rfl ?_
      refine l_val (y_fieldAddr fo_53_2 rfl) rfl rfl rfl ?_
      refine l_val (y_load1 ld_45 rfl m0 rfl) rfl rfl rfl ?_
      refine l_val (y_move rfl) rfl rfl rfl ?_
      refine l_val (y_indexAddrOwn es_45 rfl rfl hk2) rfl rfl rfl ?_
      refine l_val (y_assign rfl) rfl rfl rfl ?_
      refine l_nil ?_
      refine q_then ?_
      refine c_seq ?_
      -- region 20
      refine c_region ?_
      refine l_val (y_move rfl) rfl rfl rfl ?_
      refine l_val (y_move rfl) rfl rfl rfl ?_
      refine l_val (y_nilCheck rfl) rfl rfl rfl ?_
      refine l_val (y_fieldAddr fo_67_4 rfl) rfl rfl rfl ?_
      refine l_val (y_load1 ld_44 rfl m1 (encG_get hg rfl)) rfl rfl rfl ?_
      refine l_val (y_bin rfl rfl rfl (sumW_step hg)) rfl rfl rfl ?_
      refine l_val (y_assign rfl) rfl rfl rfl ?_
      refine l_nil ?_
      refine q_then ?_
      refine c_seq ?_
      -- region 21
      refine c_drawH mixed rfl ?_
      refine d_val (i := 0) rfl (by kernel_rfl) (by kernel_rfl) (by kernel_rfl) (y_move rfl) rfl (no_guard rfl) rfl (fun _ _ _ h => h) ?_
      refine d_val (i := 1) rfl (by kernel_rfl) (by kernel_rfl) (by kernel_rfl) (y_nilCheck rfl) rfl (no_guard rfl) rfl (fun _ _ _ h => h) ?_
      refine d_val (i := 2) rfl (by kernel_rfl) (by kernel_rfl) (by kernel_rfl) (y_fieldAddr fo_67_3 rfl) rfl (no_guard rfl) rfl (fun _ _ _ h => h) ?_
      refine d_val (i := 3) rfl (by kernel_rfl) (by kernel_rfl) (by kernel_rfl) (y_load1 ld_44 rfl m1 (encG_get hg rfl)) rfl (no_guard rfl) rfl (fun _ _ _ h => h) ?_
      refine d_val (i := 4) rfl (by kernel_rfl) (by kernel_rfl) (by kernel_rfl) (y_move rfl) rfl (no_guard rfl) rfl (fun _ _ _ h => h) ?_
      refine d_val (i := 5) rfl (by kernel_rfl) (by kernel_rfl) (by kernel_rfl) (y_nilCheck rfl) rfl (no_guard rfl) rfl (fun _ _ _ h => h) ?_
      refine d_val (i := 6) rfl (by kernel_rfl) (by kernel_rfl) (by kernel_rfl) (y_fieldAddr fo_67_8 rfl) rfl (no_guard rfl) rfl (fun _ _ _ h => h) ?_
      refine d_val (i := 7) rfl (by kernel_rfl) (by kernel_rfl) (by kernel_rfl) (y_load1 ld_44 rfl m1 (encG_get hg rfl)) rfl (no_guard rfl) rfl (fun _ _ _ h => h) ?_
      refine d_val (i := 8) rfl (by kernel_rfl) (by kernel_rfl) (by kernel_rfl) (y_bin rfl rfl rfl rfl) rfl (no_guard rfl) rfl (fun _ _ _ h => h) ?_
      refine d_val (i := 9) rfl (by kernel_rfl) (by kernel_rfl) (by kernel_rfl) (y_assign rfl) rfl (no_guard rfl) rfl (fun _ _ _ h => h) ?_
      refine d_end (by kernel_rfl) (.cons .here (.cons .here .nil)) ?_
      refine q_then ?_
      refine c_seq ?_
      refine c_seq ?_
      -- region 22
      refine c_region ?_
      refine l_val (y_move rfl) rfl rfl rfl ?_
      refine l_val (y_move rfl) rfl rfl rfl ?_
      refine l_val (y_bin rfl rfl rfl rfl) rfl rfl rfl ?_
      refine l_nil ?_
      refine q_then ?_
      refine c_cond rfl (fun hc93 => ?_) (fun hc93 => ?_)
      · skip
        -- region 23
        refine c_region ?_
        refine l_val (y_move rfl) rfl rfl rfl ?_
        refine l_val (y_assign rfl) rfl rfl rfl ?_
        refine l_nil ?_
        refine q_then ?_
        refine c_seq ?_
        -- region 24
        refine c_region ?_
        refine l_val (y_move rfl) rfl rfl rfl ?_
        refine l_val (y_move rfl) rfl rfl rfl ?_
        refine l_val (y_nilCheck rfl) rfl rfl rfl ?_
        refine l_val (y_fieldAddr fo_67_1 rfl) rfl rfl rfl ?_
        refine l_val (y_load1 ld_44 rfl m1 (encG_get hg rfl)) rfl rfl rfl ?_
        refine l_val (y_bin rfl rfl rfl rfl) rfl rfl rfl ?_
        refine l_val (y_assign rfl) rfl rfl rfl ?_
        refine l_nil ?_
        refine q_then ?_
        refine c_seq ?_
        -- region 25
        refine c_region ?_
        refine l_val (y_move rfl) rfl rfl rfl ?_
        refine l_val (y_move rfl) rfl rfl rfl ?_
        refine l_val (y_bin rfl rfl rfl rfl) rfl rfl rfl ?_
        refine l_nil ?_
        refine q_then ?_
        refine c_cond rfl (fun hc103 => ?_) (fun hc103 => ?_)
        · skip
          -- region 26
          refine c_region ?_
          refine l_val (y_move rfl) rfl rfl rfl ?_
          refine l_val (y_assign rfl) rfl rfl rfl ?_
          refine l_nil ?_
          refine q_block ?_
          refine q_then ?_
          -- region 27
          refine c_region ?_
          refine l_val (y_bin rfl rfl rfl (fitN (m := k + 1) (by omega) (by omega))) rfl rfl rfl ?_
          refine l_val (y_move rfl) rfl rfl rfl ?_
          refine l_nil ?_
          exact q_rnd (k + 1) hk2 (by omega) ⟨rfl, rfl, (by first | exact up_t hg hc93 | exact up_f hg hc93), (by first | exact dn_t hg hc103 | exact dn_f hg hc103), rfl, rfl, trivial⟩ (.cons .here (.cons .here .nil))
        · skip
          refine c_skip ?_
          refine q_block ?_
          refine q_then ?_
          -- region 27
          refine c_region ?_
          refine l_val (y_bin rfl rfl rfl (fitN (m := k + 1) (by omega) (by omega))) rfl rfl rfl ?_
          refine l_val (y_move rfl) rfl rfl rfl ?_
          refine l_nil ?_
          exact q_rnd (k + 1) hk2 (by omega) ⟨rfl, rfl, (by first | exact up_t hg hc93 | exact up_f hg hc93), (by first | exact dn_t hg hc103 | exact dn_f hg hc103), rfl, rfl, trivial⟩ (.cons .here (.cons .here .nil))
      · skip
        refine c_skip ?_
        refine q_then ?_
        refine c_seq ?_
        -- region 24
        refine c_region ?_
        refine l_val (y_move rfl) rfl rfl rfl ?_
        refine l_val (y_move rfl) rfl rfl rfl ?_
        refine l_val (y_nilCheck rfl) rfl rfl rfl ?_
        refine l_val (y_fieldAddr fo_67_1 rfl) rfl rfl rfl ?_
        refine l_val (y_load1 ld_44 rfl m1 (encG_get hg rfl)) rfl rfl rfl ?_
        refine l_val (y_bin rfl rfl rfl rfl) rfl rfl rfl ?_
        refine l_val (y_assign rfl) rfl rfl rfl ?_
        refine l_nil ?_
        refine q_then ?_
        refine c_seq ?_
        -- region 25
        refine c_region ?_
        refine l_val (y_move rfl) rfl rfl rfl ?_
        refine l_val (y_move rfl) rfl rfl rfl ?_
        refine l_val (y_bin rfl rfl rfl rfl) rfl rfl rfl ?_
        refine l_nil ?_
        refine q_then ?_
        refine c_cond rfl (fun hc103 => ?_) (fun hc103 => ?_)
        · skip
          -- region 26
          refine c_region ?_
          refine l_val (y_move rfl) rfl rfl rfl ?_
          refine l_val (y_assign rfl) rfl rfl rfl ?_
          refine l_nil ?_
          refine q_block ?_
          refine q_then ?_
          -- region 27
          refine c_region ?_
          refine l_val (y_bin rfl rfl rfl (fitN (m := k + 1) (by omega) (by omega))) rfl rfl rfl ?_
          refine l_val (y_move rfl) rfl rfl rfl ?_
          refine l_nil ?_
          exact q_rnd (k + 1) hk2 (by omega) ⟨rfl, rfl, (by first | exact up_t hg hc93 | exact up_f hg hc93), (by first | exact dn_t hg hc103 | exact dn_f hg hc103), rfl, rfl, trivial⟩ (.cons .here (.cons .here .nil))
        · skip
          refine c_skip ?_
          refine q_block ?_
          refine q_then ?_
          -- region 27
          refine c_region ?_
          refine l_val (y_bin rfl rfl rfl (fitN (m := k + 1) (by omega) (by omega))) rfl rfl rfl ?_
          refine l_val (y_move rfl) rfl rfl rfl ?_
          refine l_nil ?_
          exact q_rnd (k + 1) hk2 (by omega) ⟨rfl, rfl, (by first | exact up_t hg hc93 | exact up_f hg hc93), (by first | exact dn_t hg hc103 | exact dn_f hg hc103), rfl, rfl, trivial⟩ (.cons .here (.cons .here .nil))
    · skip
      have hk2 : k = gs.length := by simp at hc68; omega
      subst hk2
      rw [List.take_length]
      refine c_exit ?_
      refine q_then_exit ?_
      refine q_rnd_exit ?_
      refine q_block_exit ?_
      refine q_then ?_
      refine c_seq ?_
      -- region 28
      refine c_region ?_
      refine l_val (y_move rfl) rfl rfl rfl ?_
      refine l_val (y_move rfl) rfl rfl rfl ?_
      refine l_val (y_nilCheck rfl) rfl rfl rfl ?_
      refine l_val (y_fieldAddr fo_53_0 rfl) rfl rfl rfl ?_
      refine l_does rfl rfl (g_store1 sz_44 rfl rfl rfl rfl rfl rfl .here) ?_
      intro _ _
      refine l_nil ?_
      refine q_then ?_
      -- region 29
      refine c_region ?_
      refine l_val (y_move rfl) rfl rfl rfl ?_
      refine l_val (y_move rfl) rfl rfl rfl ?_
      refine l_val (y_move rfl) rfl rfl rfl ?_
      refine l_val (y_build1 (out := [_, _, _]) bp_47 rfl rfl rfl) rfl rfl rfl ?_
      refine l_val (y_nilCheck rfl) rfl rfl rfl ?_
      refine l_val (y_fieldAddr fo_53_4 rfl) rfl rfl rfl ?_
      refine l_does rfl rfl (g_storeN (vs := [_, _, _]) sz_47 rfl rfl rfl rfl rfl rfl rfl .here) ?_
      intro _ _
      refine l_nil ?_
      exact body_ret (rs := []) rfl (vs := []) trivial (out_end () trivial rfl (.cons .here .refl)) _ (.inl rfl)

end Go.Proofs.Ytbepljmeflndkaa
