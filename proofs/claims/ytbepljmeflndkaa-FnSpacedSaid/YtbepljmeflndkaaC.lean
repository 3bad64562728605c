/- someOut. -/
import Derived.Test.YtbepljmeflndkaaA
import Derived.Test.YtbepljmeflndkaaD
import Derived.Test.YtbepljmeflndkaaF
namespace Go.Proofs.Ytbepljmeflndkaa
open Go.Eng
set_option maxRecDepth 100000
attribute [local irreducible] IntKind.wrap Int.tdiv Int.tmod Int.emod sm encO encG maxLen

set_option maxHeartbeats 4000000 in
theorem f5_any (w : World) (A : Option Addr) (cap : Nat) (ls : List OG) (d nn : Int) (hd : 0 ≤ d ∧ d ≤ 255) (hn : 1 ≤ nn ∧ nn ≤ 2147483647) (hR : RdO w A ls) :
    Calls Try.prog 5 [Value.slice A ls.length cap, .int .u8 d, .int .i64 nn].toArray w (Out w [] (fun sv : Sv => slOk sv (someL nn ls).length 10 (encO (someL nn ls)))
      (fun sv => .agg (uC (d.tmod 4) 7 8 9 10 (slV sv (someL nn ls).length)).toArray) (fun sv => slH sv (encO (someL nn ls)) 38)) := by
  have hd4 : d.tmod 4 = d % 4 := Int.tmod_eq_emod_of_nonneg hd.1
  refine enter (n := 99) Try.func5 rfl rfl rfl (Hp.refl w) ?_
  refine c_seq ?_
  -- region 0
  refine c_region ?_
  refine l_gives rfl rfl (g_alloc ze_24) rfl ?_
  intro b6 hb6
  refine l_nil ?_
  refine q_then ?_
  refine c_seq ?_
  -- region 1
  refine c_region ?_
  refine l_val (y_move rfl) rfl rfl rfl ?_
  refine l_val (y_rem rfl rfl (by decide) rfl) rfl rfl rfl ?_
  refine l_val (y_conv cv_5_3 rfl (fit64 (by omega) (by omega))) rfl rfl rfl ?_
  refine l_val (y_build1 (out := [_, _, _, _, _, _]) bp_24 rfl rfl rfl) rfl rfl rfl ?_
  refine l_gives rfl rfl (g_alloc ze_24) rfl ?_
  intro b7 hb7
  refine l_does rfl rfl (g_storeN (vs := [_, _, _, _, _, _]) (cs' := [_, _, _, _, _, _]) sz_24 rfl rfl rfl rfl rfl rfl rfl .here) ?_
  intro _ _
  refine l_nil ?_
  refine q_then ?_
  refine c_seq ?_
  -- region 2
  refine c_region ?_
  refine l_val (y_assign rfl) rfl rfl rfl ?_
  refine l_nil ?_
  refine q_then ?_
  refine c_seq ?_
  refine c_seq ?_
  -- region 3
  refine c_region ?_
  refine l_val (y_assign rfl) rfl rfl rfl ?_
  refine l_nil ?_
  refine q_then ?_
  refine c_block ?_
  refine c_loop (ι := Nat × Sv) (φ := fun x => x.1 ≤ ls.length ∧ x.1 ≤ 12 ∧ slOk x.2 (pre5 nn ls x.1).length 10 (encO (pre5 nn ls x.1))) (L' := fun x => [(0, .slice A ls.length cap), (2, .int .i64 nn), (6, .pointer (some ⟨b6, 0, none⟩)), (7, .pointer (some ⟨b7, 0, none⟩)), (8, .func (.func 18) #[] #[]), (9, .int .i64 (x.1 : Int))]) (H' := fun x => (b7, uC (d.tmod 4) 7 8 9 10 (slV x.2 (pre5 nn ls x.1).length), 24) :: (b6, uC 0 0 0 0 0 (.slice none 0 0), 24) :: slH x.2 (encO (pre5 nn ls x.1)) 38) (fun x => 12 - x.1) (0, none) ⟨Nat.zero_le _, Nat.zero_le _, start5 nn ls⟩ ⟨rfl, rfl, rfl, rfl, rfl, rfl, trivial⟩ (.cons .here (.cons .here .refl)) ?_
  intro ⟨k, sv⟩ ⟨hk, hk12, hok⟩
  simp only at hk hk12 hok ⊢
  have hpl := pre5_len nn ls k
  refine c_seq ?_
  refine c_seq ?_
  -- region 4
  refine c_region ?_
  refine l_val (y_move rfl) rfl rfl rfl ?_
  refine l_val (y_move rfl) rfl rfl rfl ?_
  refine l_val (y_len sl_22 rfl) rfl rfl rfl ?_
  refine l_val (y_bin rfl rfl rfl rfl) rfl rfl rfl ?_
  refine l_val (y_move rfl) rfl rfl rfl ?_
  refine l_split (t := 20) rfl rfl (fun hs20 => ?_) (fun hs20 => ?_)
  · skip
    refine l_want rfl rfl ?_
    refine l_val (y_move rfl) rfl rfl rfl ?_
    refine l_want rfl rfl ?_
    refine l_val (y_bin rfl rfl rfl rfl) rfl rfl rfl ?_
    refine l_val (y_pick rfl rfl rfl) rfl rfl rfl ?_
    refine l_nil ?_
    refine q_then ?_
    refine c_cond rfl (fun hc23 => ?_) (fun hc23 => ?_)
    · skip
      have hk2 : k < ls.length := by simpa using hs20
      have hk12 : k < 12 := by simp only [decide_eq_true_eq] at hc23; omega
      obtain ⟨g, hg⟩ := some_at hk2
      obtain ⟨p, rfl, hpb, hpc⟩ := hR k g hg
      have hb1 := u8_bd g.gl
      have hb2 := u8_bd g.ru
      have hb3 := u16_bd g.cl
      have hb4 := gl5 nn g
      have hb5 := sm_bd g.w
      have hb6 : (IntKind.u8.wrap g.gl).tmod 3 = IntKind.u8.wrap g.gl % 3 := Int.tmod_eq_emod_of_nonneg hb1.1
      have hb7 : (IntKind.u8.wrap g.ru).tmod 2 = IntKind.u8.wrap g.ru % 2 := Int.tmod_eq_emod_of_nonneg hb2.1
      have hb8 : (sm g.w).tdiv 2 = if 0 ≤ sm g.w then sm g.w / 2 else -((-sm g.w) / 2) := tdiv2 _
      refine c_skip ?_
      refine q_then ?_
      refine c_seq ?_
      refine c_block ?_
      refine c_seq ?_
      -- region 6
      refine c_region ?_
      refine l_val (y_move rfl) rfl rfl rfl ?_
      refine l_val (y_move rfl) rfl rfl rfl ?_
      refine l_val (y_indexAddr es_22 rfl rfl hk2) rfl rfl rfl ?_
      refine l_val (y_oldLoadN (vs := OG.cells g) ld_38 rfl (by rw [block_add]; exact hpb) (by simp) rfl (fun j v hj => by rw [add_add]; exact hpc j v hj)) rfl rfl rfl ?_
      refine l_gives rfl rfl (g_alloc ze_38) rfl ?_
      intro b10 hb10
      refine l_does rfl rfl (g_storeN (vs := [_, _, _, _, _, _, _, _, _, _]) (cs' := [_, _, _, _, _, _, _, _, _, _]) sz_38 rfl rfl rfl rfl rfl rfl rfl .here) ?_
      intro _ _
      refine l_nil ?_
      refine q_then ?_
      refine c_seq ?_
      -- region 7
      refine c_drawH mixed rfl ?_
      refine d_val (i := 0) rfl (by kernel_rfl) (by kernel_rfl) (by kernel_rfl) (y_move rfl) rfl (no_guard rfl) rfl (fun _ _ _ h => h) ?_
      refine d_val (i := 1) rfl (by kernel_rfl) (by kernel_rfl) (by kernel_rfl) (y_fieldAddr fo_38_0 rfl) rfl (no_guard rfl) rfl (fun _ _ _ h => h) ?_
      refine d_val (i := 2) rfl (by kernel_rfl) (by kernel_rfl) (by kernel_rfl) (y_load1 ld_3 rfl m0 rfl) rfl (no_guard rfl) rfl (fun _ _ _ h => h) ?_
      refine d_pure (i := 3) rfl (by kernel_rfl) (by kernel_rfl) (by kernel_rfl) rfl ok_18 rfl (fun w => f18_any _ w) (no_guard rfl) rfl (fun _ _ _ h => h) ?_
      refine d_val (i := 4) rfl (by kernel_rfl) (by kernel_rfl) (by kernel_rfl) (y_move rfl) rfl (no_guard rfl) rfl (fun _ _ _ h => h) ?_
      refine d_val (i := 5) rfl (by kernel_rfl) (by kernel_rfl) (by kernel_rfl) (y_fieldAddr fo_38_1 rfl) rfl (no_guard rfl) rfl (fun _ _ _ h => h) ?_
      refine d_val (i := 6) rfl (by kernel_rfl) (by kernel_rfl) (by kernel_rfl) (y_load1 ld_3 rfl m0 rfl) rfl (no_guard rfl) rfl (fun _ _ _ h => h) ?_
      refine d_pure (i := 7) rfl (by kernel_rfl) (by kernel_rfl) (by kernel_rfl) rfl ok_18 rfl (fun w => f18_any _ w) (no_guard rfl) rfl (fun _ _ _ h => h) ?_
      refine d_val (i := 8) rfl (by kernel_rfl) (by kernel_rfl) (by kernel_rfl) (y_move rfl) rfl (no_guard rfl) rfl (fun _ _ _ h => h) ?_
      refine d_val (i := 9) rfl (by kernel_rfl) (by kernel_rfl) (by kernel_rfl) (y_fieldAddr fo_38_2 rfl) rfl (no_guard rfl) rfl (fun _ _ _ h => h) ?_
      refine d_val (i := 10) rfl (by kernel_rfl) (by kernel_rfl) (by kernel_rfl) (y_load1 ld_3 rfl m0 rfl) rfl (no_guard rfl) rfl (fun _ _ _ h => h) ?_
      refine d_pure (i := 11) rfl (by kernel_rfl) (by kernel_rfl) (by kernel_rfl) rfl ok_18 rfl (fun w => f18_any _ w) (no_guard rfl) rfl (fun _ _ _ h => h) ?_
      refine d_val (i := 12) rfl (by kernel_rfl) (by kernel_rfl) (by kernel_rfl) (y_move rfl) rfl (no_guard rfl) rfl (fun _ _ _ h => h) ?_
      refine d_val (i := 13) rfl (by kernel_rfl) (by kernel_rfl) (by kernel_rfl) (y_fieldAddr fo_38_3 rfl) rfl (no_guard rfl) rfl (fun _ _ _ h => h) ?_
      refine d_val (i := 14) rfl (by kernel_rfl) (by kernel_rfl) (by kernel_rfl) (y_load1 ld_3 rfl m0 rfl) rfl (no_guard rfl) rfl (fun _ _ _ h => h) ?_
      refine d_pure (i := 15) rfl (by kernel_rfl) (by kernel_rfl) (by kernel_rfl) rfl ok_18 rfl (fun w => f18_any _ w) (no_guard rfl) rfl (fun _ _ _ h => h) ?_
      refine d_val (i := 16) rfl (by kernel_rfl) (by kernel_rfl) (by kernel_rfl) (y_move rfl) rfl (no_guard rfl) rfl (fun _ _ _ h => h) ?_
      refine d_val (i := 17) rfl (by kernel_rfl) (by kernel_rfl) (by kernel_rfl) (y_fieldAddr fo_38_4 rfl) rfl (no_guard rfl) rfl (fun _ _ _ h => h) ?_
      refine d_val (i := 18) rfl (by kernel_rfl) (by kernel_rfl) (by kernel_rfl) (y_load1 ld_3 rfl m0 rfl) rfl (no_guard rfl) rfl (fun _ _ _ h => h) ?_
      refine d_pure (i := 19) rfl (by kernel_rfl) (by kernel_rfl) (by kernel_rfl) rfl ok_18 rfl (fun w => f18_any _ w) (no_guard rfl) rfl (fun _ _ _ h => h) ?_
      refine d_val (i := 20) rfl (by kernel_rfl) (by kernel_rfl) (by kernel_rfl) (y_move rfl) rfl (no_guard rfl) rfl (fun _ _ _ h => h) ?_
      refine d_val (i := 21) rfl (by kernel_rfl) (by kernel_rfl) (by kernel_rfl) (y_fieldAddr fo_38_5 rfl) rfl (no_guard rfl) rfl (fun _ _ _ h => h) ?_
      refine d_val (i := 22) rfl (by kernel_rfl) (by kernel_rfl) (by kernel_rfl) (y_load1 ld_3 rfl m0 rfl) rfl (no_guard rfl) rfl (fun _ _ _ h => h) ?_
      refine d_pure (i := 23) rfl (by kernel_rfl) (by kernel_rfl) (by kernel_rfl) rfl ok_18 rfl (fun w => f18_any _ w) (no_guard rfl) rfl (fun _ _ _ h => h) ?_
      refine d_val (i := 24) rfl (by kernel_rfl) (by kernel_rfl) (by kernel_rfl) (y_move rfl) rfl (no_guard rfl) rfl (fun _ _ _ h => h) ?_
      refine d_val (i := 25) rfl (by kernel_rfl) (by kernel_rfl) (by kernel_rfl) (y_fieldAddr fo_38_6 rfl) rfl (no_guard rfl) rfl (fun _ _ _ h => h) ?_
      refine d_val (i := 26) rfl (by kernel_rfl) (by kernel_rfl) (by kernel_rfl) (y_load1 ld_3 rfl m0 rfl) rfl (no_guard rfl) rfl (fun _ _ _ h => h) ?_
      refine d_pure (i := 27) rfl (by kernel_rfl) (by kernel_rfl) (by kernel_rfl) rfl ok_18 rfl (fun w => f18_any _ w) (no_guard rfl) rfl (fun _ _ _ h => h) ?_
      refine d_val (i := 28) rfl (by kernel_rfl) (by kernel_rfl) (by kernel_rfl) (y_build1 (out := [_, _, _, _, _, _, _, _, _, _]) bp_38 rfl rfl rfl) rfl (no_guard rfl) rfl (fun _ _ _ h => h) ?_
      refine d_ready (i := 29) (rs := []) (by kernel_rfl) (.cons .here (.cons .here (.cons .here .refl))) (all_one ?_)
      refine o_gives rfl rfl rfl (g_alloc ze_38) rfl ?_
      intro b11 hb11
      refine d_ready (i := 30) (rs := []) (by kernel_rfl) (.cons (.there .here) (.cons (.there .here) (.cons (.there .here) (.skip .refl)))) (all_one ?_)
      refine o_does rfl rfl rfl (g_storeN (vs := [_, _, _, _, _, _, _, _, _, _]) (cs' := [_, _, _, _, _, _, _, _, _, _]) sz_38 rfl rfl rfl rfl rfl rfl rfl .here) ?_
      intro _ _
      refine d_end (by kernel_rfl) (.cons (.there .here) (.cons (.there .here) (.cons (.there .here) (.skip .refl)))) ?_
      refine q_then ?_
      refine c_seq ?_
      -- region 8
      refine c_cut (ι := Unit) (φ := fun _ => True) (L' := fun _ => [(0, .slice (some p) ls.length cap), (2, .int .i64 nn), (6, .pointer (some ⟨b6, 0, none⟩)), (7, .pointer (some ⟨b7, 0, none⟩)), (8, .func (.func 18) #[] #[]), (9, .int .i64 (k : Int)), (11, .pointer (some ⟨b11, 0, none⟩))]) (H' := fun _ => (b11, OG.cells (one5 nn g), 38) :: (b7, uC (d.tmod 4) 7 8 9 10 (slV sv (pre5 nn ls k).length), 24) :: (b6, uC 0 0 0 0 0 (.slice none 0 0), 24) :: slH sv (encO (pre5 nn ls k)) 38) ?_ ?_
      · skip
        refine c_draw [(b10, OG.cells g, 38)] mixed rfl ?_
        refine d_val (i := 0) rfl (by kernel_rfl) (by kernel_rfl) (by kernel_rfl) (y_fieldAddr fo_38_7 rfl) rfl (no_guard rfl) rfl (fun _ _ _ h => h) ?_
        refine d_val (i := 1) rfl (by kernel_rfl) (by kernel_rfl) (by kernel_rfl) (y_load1 ld_3 rfl m0 rfl) rfl (no_guard rfl) rfl (fun _ _ _ h => h) ?_
        refine d_val (i := 2) rfl (by kernel_rfl) (by kernel_rfl) (by kernel_rfl) (y_conv cv_3_43 rfl rfl) rfl (no_guard rfl) rfl (fun _ _ _ h => h) ?_
        refine d_val (i := 3) rfl (by kernel_rfl) (by kernel_rfl) (by kernel_rfl) (y_conv cv_43_3 rfl (fit64 (by omega) (by omega))) rfl (no_guard rfl) rfl (fun _ _ _ h => h) ?_
        refine d_val (i := 4) rfl (by kernel_rfl) (by kernel_rfl) (by kernel_rfl) (y_move rfl) rfl (no_guard rfl) rfl (fun _ _ _ h => h) ?_
        refine d_val (i := 5) rfl (by kernel_rfl) (by kernel_rfl) (by kernel_rfl) (y_rem rfl rfl (by omega) rfl) rfl (no_guard rfl) rfl (fun _ _ _ h => h) ?_
        refine d_val (i := 6) rfl (by kernel_rfl) (by kernel_rfl) (by kernel_rfl) (y_fieldAddr fo_38_8 rfl) rfl (no_guard rfl) rfl (fun _ _ _ h => h) ?_
        refine d_val (i := 7) rfl (by kernel_rfl) (by kernel_rfl) (by kernel_rfl) (y_load1 ld_3 rfl m0 rfl) rfl (no_guard rfl) rfl (fun _ _ _ h => h) ?_
        refine d_val (i := 8) rfl (by kernel_rfl) (by kernel_rfl) (by kernel_rfl) (y_conv cv_3_5 rfl rfl) rfl (no_guard rfl) rfl (fun _ _ _ h => h) ?_
        refine d_val (i := 9) rfl (by kernel_rfl) (by kernel_rfl) (by kernel_rfl) (y_rem rfl rfl (by decide) rfl) rfl (no_guard rfl) rfl (fun _ _ _ h => h) ?_
        refine d_val (i := 10) rfl (by kernel_rfl) (by kernel_rfl) (by kernel_rfl) (y_conv cv_5_3 rfl (fit64 (by omega) (by omega))) rfl (no_guard rfl) rfl (fun _ _ _ h => h) ?_
        refine d_val (i := 11) rfl (by kernel_rfl) (by kernel_rfl) (by kernel_rfl) (y_bin rfl rfl rfl (fit64 (by omega) (by omega))) rfl (no_guard rfl) rfl (fun _ _ _ h => h) ?_
        refine d_val (i := 12) rfl (by kernel_rfl) (by kernel_rfl) (by kernel_rfl) (y_fieldAddr fo_38_9 rfl) rfl (no_guard rfl) rfl (fun _ _ _ h => h) ?_
        refine d_val (i := 13) rfl (by kernel_rfl) (by kernel_rfl) (by kernel_rfl) (y_load1 ld_3 rfl m0 rfl) rfl (no_guard rfl) rfl (fun _ _ _ h => h) ?_
        refine d_val (i := 14) rfl (by kernel_rfl) (by kernel_rfl) (by kernel_rfl) (y_conv cv_3_5 rfl rfl) rfl (no_guard rfl) rfl (fun _ _ _ h => h) ?_
        refine d_val (i := 15) rfl (by kernel_rfl) (by kernel_rfl) (by kernel_rfl) (y_rem rfl rfl (by decide) rfl) rfl (no_guard rfl) rfl (fun _ _ _ h => h) ?_
        refine d_val (i := 16) rfl (by kernel_rfl) (by kernel_rfl) (by kernel_rfl) (y_conv cv_5_3 rfl (fit64 (by omega) (by omega))) rfl (no_guard rfl) rfl (fun _ _ _ h => h) ?_
        refine d_val (i := 17) rfl (by kernel_rfl) (by kernel_rfl) (by kernel_rfl) (y_bin rfl rfl rfl (fit64 (by omega) (by omega))) rfl (no_guard rfl) rfl (fun _ _ _ h => h) ?_
        refine d_val (i := 18) rfl (by kernel_rfl) (by kernel_rfl) (by kernel_rfl) (y_fieldAddr fo_38_7 rfl) rfl (no_guard rfl) rfl (fun _ _ _ h => h) ?_
        refine d_ready (i := 19) (rs := []) (by kernel_rfl) (.cons (.there .here) .nil) (all_one ?_)
        refine o_does rfl rfl rfl (g_store1 (cs' := [_, _, _, _, _, _, _, _, _, _]) sz_3 rfl rfl rfl rfl rfl rfl .here) ?_
        intro _ _
        refine d_val (i := 20) rfl (by kernel_rfl) (by kernel_rfl) (by kernel_rfl) (y_fieldAddr fo_38_8 rfl) rfl (no_guard rfl) rfl (fun _ _ _ h => h) ?_
        refine d_ready (i := 21) (rs := []) (by kernel_rfl) (.cons (.there .here) .nil) (all_one ?_)
        refine o_does rfl rfl rfl (g_store1 (cs' := [_, _, _, _, _, _, _, _, _, _]) sz_3 rfl rfl rfl rfl rfl rfl .here) ?_
        intro _ _
        refine d_val (i := 22) rfl (by kernel_rfl) (by kernel_rfl) (by kernel_rfl) (y_fieldAddr fo_38_9 rfl) rfl (no_guard rfl) rfl (fun _ _ _ h => h) ?_
        refine d_ready (i := 23) (rs := []) (by kernel_rfl) (.cons (.there .here) .nil) (all_one ?_)
        refine o_does rfl rfl rfl (g_store1 (cs' := [_, _, _, _, _, _, _, _, _, _]) sz_3 rfl rfl rfl rfl rfl rfl .here) ?_
        intro _ _
        refine d_end (by kernel_rfl) (.cons (.there .here) .nil) ?_
        exact q_cut () trivial ⟨rfl, rfl, rfl, rfl, rfl, rfl, rfl, trivial⟩ (.cons .here (.cons (.there .here) (.cons (.there .here) (.skip .refl))))
      intro _ _
      refine q_then ?_
      refine c_seq ?_
      -- region 9
      refine c_region ?_
      refine l_val (y_fieldAddr fo_38_9 rfl) rfl rfl rfl ?_
      refine l_val (y_load1 ld_3 rfl m0 rfl) rfl rfl rfl ?_
      refine l_val (y_move rfl) rfl rfl rfl ?_
      refine l_nil ?_
      refine q_then ?_
      refine c_block ?_
      rw [← xs5_zero nn ls k g] at hok ⊢
      refine c_loop (ι := Nat × Sv) (φ := fun x => (x.1 : Int) ≤ (one5 nn g).gl ∧ slOk x.2 (xs5 nn ls k g x.1).length 10 (encO (xs5 nn ls k g x.1))) (L' := fun x => [(0, .slice (some p) ls.length cap), (2, .int .i64 nn), (6, .pointer (some ⟨b6, 0, none⟩)), (7, .pointer (some ⟨b7, 0, none⟩)), (8, .func (.func 18) #[] #[]), (9, .int .i64 (k : Int)), (11, .pointer (some ⟨b11, 0, none⟩)), (81, .int .i64 (one5 nn g).gl), (82, .int .i64 (x.1 : Int))]) (H' := fun x => (b11, OG.cells (at5 nn g x.1), 38) :: (b7, uC (d.tmod 4) 7 8 9 10 (slV x.2 (xs5 nn ls k g x.1).length), 24) :: (b6, uC 0 0 0 0 0 (.slice none 0 0), 24) :: slH x.2 (encO (xs5 nn ls k g x.1)) 38) (fun x => (one5 nn g).gl.toNat - x.1) (0, sv) ⟨by simp only; omega, hok⟩ ⟨rfl, rfl, rfl, rfl, rfl, rfl, rfl, rfl, rfl, trivial⟩ (.cons .here (.cons .here (.cons .here .refl))) ?_
      intro ⟨j, sv⟩ ⟨hj, hok⟩
      simp only at hj hok ⊢
      have hxl := xs5_le nn ls k g j
      refine c_seq ?_
      -- region 10
      refine c_region ?_
      refine l_val (y_bin rfl rfl rfl rfl) rfl rfl rfl ?_
      refine l_nil ?_
      refine q_then ?_
      refine c_seq ?_
      refine c_cond rfl (fun hc83 => ?_) (fun hc83 => ?_)
      · skip
        have hj2 : (j : Int) < (one5 nn g).gl := by simpa using hc83
        refine c_skip ?_
        refine q_then ?_
        refine c_seq ?_
        refine c_block ?_
        refine c_seq ?_
        -- region 11
        refine c_region ?_
        refine l_val (y_fieldAddr fo_24_5 rfl) rfl rfl rfl ?_
        refine l_val (y_load1 ld_22 rfl m1 rfl) rfl rfl rfl ?_
        refine l_val (y_loadN (vs := [_, _, _, _, _, _, _, _, _, _]) ld_38 rfl m0 rfl rfl) rfl rfl rfl ?_
        refine l_gives rfl rfl (g_buildSlice (cs := OG.cells (at5 nn g j) ++ []) sl_22 sz_38 ze_38 rfl rfl rfl rfl (by simp [Value.cells, OG.cells]) rfl rfl) rfl ?_
        intro b87 hb87
        refine l_gives rfl rfl (g_appendT (by_ := 80) [_, _, _, _] sl_22 inf_38 rfl rfl rfl rfl (by decide) rfl rfl hok rfl m0 rfl (OG.one _) (by unfold maxLen; omega) (by omega)) rfl ?_
        intro sv1 hok1
        rw [xs5_enc, xs5_len] at hok1
        rw [xs5_enc, xs5_len]
        refine l_val (y_fieldAddr fo_24_5 rfl) rfl rfl rfl ?_
        refine l_does rfl rfl (g_store1 (cs' := [_, _, _, _, _, _]) sz_22 rfl rfl (slV_cells _ _) rfl (slV_one _ _) rfl (.there (.there .here))) ?_
        intro _ _
        refine l_nil ?_
        refine q_then ?_
        -- region 12
        refine c_region ?_
        refine l_val (y_fieldAddr fo_38_0 rfl) rfl rfl rfl ?_
        refine l_val (y_load1 ld_3 rfl m1 rfl) rfl rfl rfl ?_
        refine l_val (y_quo rfl rfl (by decide) (q5 nn g j)) rfl rfl rfl ?_
        refine l_val (y_fieldAddr fo_38_1 rfl) rfl rfl rfl ?_
        refine l_val (y_load1 ld_3 rfl m1 rfl) rfl rfl rfl ?_
        refine l_val (y_fieldAddr fo_38_4 rfl) rfl rfl rfl ?_
        refine l_does rfl rfl (g_store1 (cs' := [_, _, _, _, _, _, _, _, _, _]) sz_3 rfl rfl rfl rfl rfl rfl (.there .here)) ?_
        intro _ _
        refine l_val (y_fieldAddr fo_38_5 rfl) rfl rfl rfl ?_
        refine l_does rfl rfl (g_store1 (cs' := [_, _, _, _, _, _, _, _, _, _]) sz_3 rfl rfl rfl rfl rfl rfl (.there .here)) ?_
        intro _ _
        refine l_nil ?_
        refine q_block ?_
        refine q_then ?_
        -- region 13
        refine c_region ?_
        refine l_val (y_bin rfl rfl rfl (fitN (m := j + 1) (by omega) (by omega))) rfl rfl rfl ?_
        refine l_val (y_move rfl) rfl rfl rfl ?_
        refine l_nil ?_
        exact q_rnd (j + 1, sv1) ⟨by simp only; omega, hok1⟩ (by simp only; omega) ⟨rfl, rfl, rfl, rfl, rfl, rfl, rfl, rfl, rfl, trivial⟩ (.cons (.there .here) (.cons (.there .here) (.cons (.there .here) (.skip .refl))))
      · skip
        have hj2 : j = (one5 nn g).gl.toNat := by simp only [decide_eq_false_iff_not] at hc83; omega
        subst hj2
        rw [xs5_all hg] at hok ⊢
        refine c_exit ?_
        refine q_then_exit ?_
        refine q_rnd_exit ?_
        refine q_block_exit ?_
        refine q_block ?_
        refine q_then ?_
        -- region 5
        refine c_region ?_
        refine l_val (y_move rfl) rfl rfl rfl ?_
        refine l_val (y_bin rfl rfl rfl (fitN (m := k + 1) (by omega) (by omega))) rfl rfl rfl ?_
        refine l_val (y_assign rfl) rfl rfl rfl ?_
        refine l_nil ?_
        exact q_rnd (k + 1, sv) ⟨hk2, hk12, hok⟩ (by simp only; omega) ⟨rfl, rfl, rfl, rfl, rfl, rfl, trivial⟩ (.cons (.there .here) (.cons (.there .here) (.skip .refl)))
    · skip
      have hk2 : pre5 nn ls k = someL nn ls := pre5_end hk hk12 (.inr (by simp only [decide_eq_false_iff_not] at hc23; omega))
      rw [hk2] at hok ⊢
      refine c_exit ?_
      refine q_then_exit ?_
      refine q_rnd_exit ?_
      refine q_block_exit ?_
      refine q_then ?_
      refine c_seq ?_
      -- region 14
      refine c_region ?_
      refine l_val (y_loadN (vs := [_, _, _, _, _, _]) ld_24 rfl m0 rfl rfl) rfl rfl rfl ?_
      refine l_does rfl rfl (g_storeN (vs := [_, _, _, _, _, _]) (cs' := [_, _, _, _, _, _]) sz_24 rfl rfl rfl rfl rfl (uC_one _ _ _ _ _ _ _) rfl (.there .here)) ?_
      intro _ _
      refine l_nil ?_
      refine q_then ?_
      refine c_ret ?_
      exact body_ret (rs := [.cell 6 24]) rfl (vs := [.agg (uC (d.tmod 4) 7 8 9 10 (slV sv (someL nn ls).length)).toArray]) ⟨⟨b6, 0, _, 24, rfl, m1, .inr ⟨6, _, ld_24, rfl, rfl, rfl⟩⟩, trivial⟩ (out_end sv hok rfl (.skip (.skip .refl))) _ (.inr rfl)
  · skip
    have hk2 : pre5 nn ls k = someL nn ls := pre5_end hk hk12 (.inl (by simp only [decide_eq_false_iff_not] at hs20; omega))
    rw [hk2] at hok ⊢
    refine l_not rfl rfl rfl rfl ?_
    refine l_not rfl rfl rfl rfl ?_
    refine l_val (y_pick rfl rfl rfl) rfl rfl rfl ?_
    refine l_nil ?_
    refine q_then ?_
    refine c_false rfl rfl ?_
    refine c_exit ?_
    refine q_then_exit ?_
    refine q_rnd_exit ?_
    refine q_block_exit ?_
    refine q_then ?_
    refine c_seq ?_
    -- region 14
    refine c_region ?_
    refine l_val (y_loadN (vs := [_, _, _, _, _, _]) ld_24 rfl m0 rfl rfl) rfl rfl rfl ?_
    refine l_does rfl rfl (g_storeN (vs := [_, _, _, _, _, _]) (cs' := [_, _, _, _, _, _]) sz_24 rfl rfl rfl rfl rfl (uC_one _ _ _ _ _ _ _) rfl (.there .here)) ?_
    intro _ _
    refine l_nil ?_
    refine q_then ?_
    refine c_ret ?_
    exact body_ret (rs := [.cell 6 24]) rfl (vs := [.agg (uC (d.tmod 4) 7 8 9 10 (slV sv (someL nn ls).length)).toArray]) ⟨⟨b6, 0, _, 24, rfl, m1, .inr ⟨6, _, ld_24, rfl, rfl, rfl⟩⟩, trivial⟩ (out_end sv hok rfl (.skip (.skip .refl))) _ (.inr rfl)

end Go.Proofs.Ytbepljmeflndkaa
