/- outOf. -/
import Derived.Test.YtbepljmeflndkaaG
namespace Go.Proofs.Ytbepljmeflndkaa
open Go.Eng
set_option maxRecDepth 100000
attribute [local irreducible] IntKind.wrap Int.tdiv Int.tmod Int.emod sm encO encG maxLen

set_option maxHeartbeats 4000000 in
theorem f19_any (w : World) (A : Option Addr) (cap : Nat) (gs : List OG) (dir ad up dn gp : Int) (gv : Value) (hgv : gv = .slice A gs.length cap) (hcap : gs.length ≤ cap) (hR : RdO w A gs) (hlen : gs.length ≤ 1000)
    (hdir : 0 ≤ dir ∧ dir ≤ 3) (had : inG ad) (hup : inG up) (hdn : inG dn) (hgp : inG gp) (hB : ∀ g ∈ gs, OB g) (hpos : ∀ g ∈ gs, 0 ≤ g.cl ∧ 0 ≤ g.ru) (hcl0 : ∃ bs : List (List OG), gs = bs.flatten ∧ ∀ b ∈ bs, Blk1 b) :
    Calls Try.prog 19 [Value.agg (uC dir ad up dn gp gv).toArray].toArray w (Out w [] (fun sv : Sv => slOk sv (gs.map (ofO (decide (2 ≤ dir)))).length 16 (encG (gs.map (ofO (decide (2 ≤ dir))))))
      (fun sv => .tuple #[.agg (oC ad up dn gp dir (slV sv (gs.map (ofO (decide (2 ≤ dir)))).length)).toArray, .bool true]) (fun sv => slH sv (encG (gs.map (ofO (decide (2 ≤ dir))))) 67)) := by
  subst hgv
  refine enter (n := 179) Try.func19 rfl rfl rfl (Hp.refl w) ?_
  refine c_seq ?_
  -- region 0
  refine c_region ?_
  refine l_gives rfl rfl (g_box (vs := [_, _, _, _, _, _]) rfl rfl) rfl ?_
  intro b1 hb1
  refine l_gives rfl rfl (g_alloc ze_53) rfl ?_
  intro b2 hb2
  refine l_val (y_assign rfl) rfl rfl rfl ?_
  refine l_nil ?_
  refine q_then ?_
  refine c_seq ?_
  -- region 1
  refine c_region ?_
  refine l_val (y_fieldAddr fo_24_0 rfl) rfl rfl rfl ?_
  refine l_val (y_load1 ld_3 rfl m1 rfl) rfl rfl rfl ?_
  refine l_val (y_bin rfl rfl rfl (boolT hdir.1)) rfl rfl rfl ?_
  refine l_val (y_move rfl) rfl rfl rfl ?_
  refine l_want rfl rfl ?_
  refine l_val (y_fieldAddr fo_24_0 rfl) rfl rfl rfl ?_
  refine l_want rfl rfl ?_
  refine l_val (y_load1 ld_3 rfl m1 rfl) rfl rfl rfl ?_
  refine l_want rfl rfl ?_
  refine l_val (y_bin rfl rfl rfl (boolT hdir.2)) rfl rfl rfl ?_
  refine l_val (y_pick rfl rfl rfl) rfl rfl rfl ?_
  refine l_val (y_move rfl) rfl rfl rfl ?_
  refine l_want rfl rfl ?_
  refine l_val (y_fieldAddr fo_24_5 rfl) rfl rfl rfl ?_
  refine l_want rfl rfl ?_
  refine l_val (y_load1 ld_22 rfl m1 rfl) rfl rfl rfl ?_
  refine l_want rfl rfl ?_
  refine l_val (y_len sl_22 rfl) rfl rfl rfl ?_
  refine l_want rfl rfl ?_
  refine l_val (y_bin rfl rfl rfl (boolT (by omega))) rfl rfl rfl ?_
  refine l_val (y_pick rfl rfl rfl) rfl rfl rfl ?_
  refine l_val (y_assign rfl) rfl rfl rfl ?_
  refine l_nil ?_
  refine q_then ?_
  refine c_seq ?_
  refine c_seq ?_
  -- region 2
  refine c_region ?_
  refine l_val (y_fieldAddr fo_24_1 rfl) rfl rfl rfl ?_
  refine l_val (y_load1 ld_3 rfl m1 rfl) rfl rfl rfl ?_
  refine l_val (y_fieldAddr fo_24_2 rfl) rfl rfl rfl ?_
  refine l_val (y_load1 ld_3 rfl m1 rfl) rfl rfl rfl ?_
  refine l_val (y_fieldAddr fo_24_3 rfl) rfl rfl rfl ?_
  refine l_val (y_load1 ld_3 rfl m1 rfl) rfl rfl rfl ?_
  refine l_val (y_fieldAddr fo_24_4 rfl) rfl rfl rfl ?_
  refine l_val (y_load1 ld_3 rfl m1 rfl) rfl rfl rfl ?_
  refine l_gives rfl rfl (g_buildSlice (cs := [_, _, _, _]) sl_63 sz_3 ze_3 rfl rfl rfl rfl (by simp [Value.cells]) rfl rfl) rfl ?_
  intro b36 hb36
  refine l_val (y_len sl_63 rfl) rfl rfl rfl ?_
  refine l_val (y_move rfl) rfl rfl rfl ?_
  refine l_nil ?_
  refine q_then ?_
  refine c_block ?_
  refine c_loop (ι := Nat) (φ := fun j => j ≤ 4) (L' := fun j => [(1, .pointer (some ⟨b1, 0, none⟩)), (2, .pointer (some ⟨b2, 0, none⟩)), (3, .bool true), (36, .slice (some ⟨b36, 0, none⟩) 4 4), (37, .int .i64 (4 : Nat)), (38, .int .i64 (j : Int))]) (H' := fun _ => (b36, [.int .i64 ad, .int .i64 up, .int .i64 dn, .int .i64 gp], 3) :: (b2, oC 0 0 0 0 0 (.slice none 0 0), 53) :: (b1, uC dir ad up dn gp (.slice A gs.length cap), 24) :: []) (fun j => 4 - j) 0 (Nat.zero_le _) ⟨rfl, rfl, rfl, rfl, rfl, rfl, trivial⟩ (.cons .here (.cons .here (.cons .here .refl))) ?_
  intro j hj
  refine c_seq ?_
  -- region 3
  refine c_region ?_
  refine l_val (y_bin rfl rfl rfl rfl) rfl rfl rfl ?_
  refine l_nil ?_
  refine q_then ?_
  refine c_seq ?_
  refine c_cond rfl (fun hc39 => ?_) (fun hc39 => ?_)
  · skip
    have hj2 : j < 4 := by simp only [decide_eq_true_eq] at hc39; omega
    obtain ⟨x, hx, hxb⟩ := four had hup hdn hgp hj2
    refine c_skip ?_
    refine q_then ?_
    refine c_seq ?_
    refine c_block ?_
    refine c_seq ?_
    -- region 4
    refine c_region ?_
    refine l_val (y_indexAddrOwn es_63 rfl rfl hj2) rfl rfl rfl ?_
    refine l_val (y_load1 ld_3 rfl m0 hx) rfl rfl rfl ?_
    refine l_val (y_assign rfl) rfl rfl rfl ?_
    refine l_nil ?_
    refine q_then ?_
    -- region 5
    refine c_region ?_
    refine l_val (y_move rfl) rfl rfl rfl ?_
    refine l_val (y_move rfl) rfl rfl rfl ?_
    refine l_want rfl rfl ?_
    refine l_val (y_move rfl) rfl rfl rfl ?_
    refine l_want rfl rfl ?_
    refine l_val (y_bin rfl rfl rfl (boolT hxb.1)) rfl rfl rfl ?_
    refine l_val (y_pick rfl rfl rfl) rfl rfl rfl ?_
    refine l_val (y_move rfl) rfl rfl rfl ?_
    refine l_want rfl rfl ?_
    refine l_val (y_move rfl) rfl rfl rfl ?_
    refine l_want rfl rfl ?_
    refine l_val (y_bin rfl rfl rfl (boolT hxb.2)) rfl rfl rfl ?_
    refine l_val (y_pick rfl rfl rfl) rfl rfl rfl ?_
    refine l_val (y_assign rfl) rfl rfl rfl ?_
    refine l_nil ?_
    refine q_block ?_
    refine q_then ?_
    -- region 6
    refine c_region ?_
    refine l_val (y_bin rfl rfl rfl (fitN (m := j + 1) (by omega) (by omega))) rfl rfl rfl ?_
    refine l_val (y_move rfl) rfl rfl rfl ?_
    refine l_nil ?_
    exact q_rnd (j + 1) hj2 (by omega) ⟨rfl, rfl, rfl, rfl, rfl, rfl, trivial⟩ (.cons .here (.cons .here (.cons .here .refl)))
  · skip
    refine c_exit ?_
    refine q_then_exit ?_
    refine q_rnd_exit ?_
    refine q_block_exit ?_
    refine q_then ?_
    refine c_seq ?_
    refine c_seq ?_
    -- region 7
    refine c_region ?_
    refine l_val (y_move rfl) rfl rfl rfl ?_
    refine l_val (y_not rfl) rfl rfl rfl ?_
    refine l_nil ?_
    refine q_then ?_
    refine c_false rfl rfl ?_
    refine c_skip ?_
    refine q_then ?_
    refine c_seq ?_
    -- region 9
    refine c_region ?_
    refine l_val (y_fieldAddr fo_24_0 rfl) rfl rfl rfl ?_
    refine l_val (y_load1 ld_3 rfl m2 rfl) rfl rfl rfl ?_
    refine l_val (y_conv cv_3_48 rfl (fitU hdir)) rfl rfl rfl ?_
    refine l_val (y_fieldAddr fo_53_5 rfl) rfl rfl rfl ?_
    refine l_does rfl rfl (g_store1 (cs' := [_, _, _, _, _, _, _, _, _, _, _, _, _, _]) sz_48 rfl rfl rfl rfl rfl rfl (.there .here)) ?_
    intro _ _
    refine l_nil ?_
    refine q_then ?_
    refine c_seq ?_
    -- region 10
    refine c_region ?_
    refine l_val (y_fieldAddr fo_24_1 rfl) rfl rfl rfl ?_
    refine l_val (y_load1 ld_3 rfl m2 rfl) rfl rfl rfl ?_
    refine l_val (y_conv cv_3_44 rfl (fitG had)) rfl rfl rfl ?_
    refine l_val (y_fieldAddr fo_53_0 rfl) rfl rfl rfl ?_
    refine l_does rfl rfl (g_store1 (cs' := [_, _, _, _, _, _, _, _, _, _, _, _, _, _]) sz_44 rfl rfl rfl rfl rfl rfl (.there .here)) ?_
    intro _ _
    refine l_nil ?_
    refine q_then ?_
    refine c_seq ?_
    -- region 11
    refine c_region ?_
    refine l_val (y_fieldAddr fo_24_2 rfl) rfl rfl rfl ?_
    refine l_val (y_load1 ld_3 rfl m2 rfl) rfl rfl rfl ?_
    refine l_val (y_conv cv_3_44 rfl (fitG hup)) rfl rfl rfl ?_
    refine l_val (y_fieldAddr fo_24_3 rfl) rfl rfl rfl ?_
    refine l_val (y_load1 ld_3 rfl m2 rfl) rfl rfl rfl ?_
    refine l_val (y_conv cv_3_44 rfl (fitG hdn)) rfl rfl rfl ?_
    refine l_val (y_fieldAddr fo_24_4 rfl) rfl rfl rfl ?_
    refine l_val (y_load1 ld_3 rfl m2 rfl) rfl rfl rfl ?_
    refine l_val (y_conv cv_3_44 rfl (fitG hgp)) rfl rfl rfl ?_
    refine l_val (y_build1 (out := [_, _, _]) bp_47 rfl rfl rfl) rfl rfl rfl ?_
    refine l_val (y_fieldAddr fo_53_4 rfl) rfl rfl rfl ?_
    refine l_does rfl rfl (g_storeN (vs := [_, _, _]) (cs' := [_, _, _, _, _, _, _, _, _, _, _, _, _, _]) sz_47 rfl rfl rfl rfl rfl rfl rfl (.there .here)) ?_
    intro _ _
    refine l_nil ?_
    refine q_then ?_
    refine c_seq ?_
    refine c_seq ?_
    -- region 12
    refine c_region ?_
    refine l_val (y_fieldAddr fo_24_5 rfl) rfl rfl rfl ?_
    refine l_val (y_load1 ld_22 rfl m2 rfl) rfl rfl rfl ?_
    refine l_val (y_len sl_22 rfl) rfl rfl rfl ?_
    refine l_val (y_move rfl) rfl rfl rfl ?_
    refine l_nil ?_
    refine q_then ?_
    refine c_block ?_
    refine c_loop (ι := Nat × Sv) (φ := fun x => x.1 ≤ gs.length ∧ slOk x.2 ((gs.take x.1).map (ofO (decide (2 ≤ dir)))).length 16 (encG ((gs.take x.1).map (ofO (decide (2 ≤ dir)))))) (L' := fun x => [(1, .pointer (some ⟨b1, 0, none⟩)), (2, .pointer (some ⟨b2, 0, none⟩)), (3, .bool true), (75, .slice A gs.length cap), (76, .int .i64 (gs.length : Int)), (77, .int .i64 (x.1 : Int))]) (H' := fun x => (b2, oC ad up dn gp dir (slV x.2 ((gs.take x.1).map (ofO (decide (2 ≤ dir)))).length), 53) :: (b1, uC dir ad up dn gp (.slice A gs.length cap), 24) :: slH x.2 (encG ((gs.take x.1).map (ofO (decide (2 ≤ dir))))) 67) (fun x => gs.length - x.1) (0, none) ⟨Nat.zero_le _, startG⟩ ⟨rfl, rfl, rfl, rfl, rfl, rfl, trivial⟩ (.cons (.there .here) (.cons (.there .here) (.skip .refl))) ?_
    intro ⟨k, sv⟩ ⟨hk, hok⟩
    simp only at hk hok ⊢
    have hml : ((gs.take k).map (ofO (decide (2 ≤ dir)))).length ≤ k := by simp; omega
    refine c_seq ?_
    -- region 13
    refine c_region ?_
    refine l_val (y_bin rfl rfl rfl rfl) rfl rfl rfl ?_
    refine l_nil ?_
    refine q_then ?_
    refine c_seq ?_
    refine c_cond rfl (fun hc78 => ?_) (fun hc78 => ?_)
    · skip
      have hk2 : k < gs.length := by simpa using hc78
      obtain ⟨g, hg⟩ := some_at hk2
      obtain ⟨p, rfl, hpb, hpc⟩ := hR k g hg
      obtain ⟨hcl, hru⟩ := hpos g (List.mem_of_getElem? hg)
      refine c_skip ?_
      refine q_then ?_
      refine c_seq ?_
      refine c_block ?_
      refine c_seq ?_
      -- region 14
      refine c_region ?_
      refine l_val (y_indexAddr es_22 rfl rfl hk2) rfl rfl rfl ?_
      refine l_val (y_oldLoadN (vs := OG.cells g) ld_38 rfl (by rw [block_add]; exact hpb) (by simp) rfl (fun j v hj => by rw [add_add]; exact hpc j v hj)) rfl rfl rfl ?_
      refine l_gives rfl rfl (g_alloc ze_38) rfl ?_
      intro b7 hb7
      refine l_does rfl rfl (g_storeN (vs := [_, _, _, _, _, _, _, _, _, _]) (cs' := [_, _, _, _, _, _, _, _, _, _]) sz_38 rfl rfl rfl rfl rfl rfl rfl .here) ?_
      intro _ _
      refine l_nil ?_
      refine q_then ?_
      refine c_seq ?_
      -- region 15
      refine c_cut (ι := Nat) (φ := fun _ => True) (L' := fun x => [(1, .pointer (some ⟨b1, 0, none⟩)), (2, .pointer (some ⟨b2, 0, none⟩)), (3, .bool true), (75, .slice (some p) gs.length cap), (76, .int .i64 (gs.length : Int)), (77, .int .i64 (k : Int)), (7, .pointer (some ⟨b7, 0, none⟩)), (8, .pointer (some ⟨x, 0, none⟩)), (9, .bool true)]) (H' := fun x => (x, GL.cells (ofO (decide (2 ≤ dir)) g), 67) :: (b7, OG.cells g, 38) :: (b2, oC ad up dn gp dir (slV sv ((gs.take k).map (ofO (decide (2 ≤ dir)))).length), 53) :: (b1, uC dir ad up dn gp (.slice (some p) gs.length cap), 24) :: slH sv (encG ((gs.take k).map (ofO (decide (2 ≤ dir))))) 67) ?_ ?_
      · skip
        refine c_drawH mixed rfl ?_
        refine d_val (i := 0) rfl (by kernel_rfl) (by kernel_rfl) (by kernel_rfl) (y_loadN (vs := [_, _, _, _, _, _, _, _, _, _]) ld_38 rfl m0 rfl rfl) rfl (no_guard rfl) rfl (fun _ _ _ h => h) ?_
        refine d_val (i := 1) rfl (by kernel_rfl) (by kernel_rfl) (by kernel_rfl) (y_fieldAddr fo_53_5 rfl) rfl (no_guard rfl) rfl (fun _ _ _ h => h) ?_
        refine d_val (i := 2) rfl (by kernel_rfl) (by kernel_rfl) (by kernel_rfl) (y_load1 ld_48 rfl m1 rfl) rfl (no_guard rfl) rfl (fun _ _ _ h => h) ?_
        refine d_pure (i := 3) rfl (by kernel_rfl) (by kernel_rfl) (by kernel_rfl) rfl ok_32 rfl (fun w1 => f32_any dir hdir w1) (no_guard rfl) rfl (fun _ _ _ h => h) ?_
        refine d_ready (i := 4) (rs := [8]) (by kernel_rfl) (.cons .here (.cons .here (.cons .here .refl))) (all_cons ?_ (all_one ?_))
        · skip
          refine o_call rfl (no_guard rfl) ok_31 rfl rfl (fun w1 hw1 => out_plain hw1 (f31_any w1 g _ (hB g (List.mem_of_getElem? hg)))) ?_
          intro _ _
          refine d_val (i := 5) rfl (by kernel_rfl) (by kernel_rfl) (by kernel_rfl) (y_move rfl) rfl (no_guard rfl) rfl (fun _ _ _ h => h) ?_
          refine d_val (i := 6) rfl (by kernel_rfl) (by kernel_rfl) (by kernel_rfl) (y_extract rfl rfl) rfl (no_guard rfl) rfl (fun _ _ _ h => h) ?_
          refine d_val (i := 7) rfl (by kernel_rfl) (by kernel_rfl) (by kernel_rfl) (y_extract rfl rfl) rfl (no_guard rfl) rfl (fun _ _ _ h => h) ?_
          refine d_ready (i := 8) (rs := []) (by kernel_rfl) (.cons .here (.cons .here (.cons .here .refl))) (all_one ?_)
          refine o_gives rfl rfl rfl (g_alloc ze_67) rfl ?_
          intro b8 hb8
          refine d_ready (i := 9) (rs := []) (by kernel_rfl) (.cons (.there .here) (.cons (.there .here) (.cons (.there .here) (.skip .refl)))) (all_one ?_)
          refine o_does rfl rfl rfl (g_storeN (vs := [_, _, _, _, _, _, _, _, _, _, _, _, _, _, _, _]) (cs' := [_, _, _, _, _, _, _, _, _, _, _, _, _, _, _, _]) sz_67 rfl rfl rfl rfl rfl rfl rfl .here) ?_
          intro _ _
          refine d_val (i := 10) rfl (by kernel_rfl) (by kernel_rfl) (by kernel_rfl) (y_assign rfl) rfl (no_guard rfl) rfl (fun _ _ _ h => h) ?_
          refine d_end (by kernel_rfl) (.cons (.there .here) (.cons (.there .here) (.cons (.there .here) (.skip .refl)))) ?_
          exact q_cut b8 trivial ⟨rfl, rfl, rfl, rfl, rfl, rfl, rfl, rfl, rfl, trivial⟩ (.cons .here (.cons .here (.cons .here (.cons .here .refl))))
        · skip
          refine o_gives rfl rfl rfl (g_alloc ze_67) rfl ?_
          intro b8 hb8
          refine d_ready (i := 4) (rs := []) (by kernel_rfl) (.cons (.there .here) (.cons (.there .here) (.cons (.there .here) (.skip .refl)))) (all_one ?_)
          refine o_call rfl (no_guard rfl) ok_31 rfl rfl (fun w1 hw1 => out_plain hw1 (f31_any w1 g _ (hB g (List.mem_of_getElem? hg)))) ?_
          intro _ _
          refine d_val (i := 5) rfl (by kernel_rfl) (by kernel_rfl) (by kernel_rfl) (y_move rfl) rfl (no_guard rfl) rfl (fun _ _ _ h => h) ?_
          refine d_val (i := 6) rfl (by kernel_rfl) (by kernel_rfl) (by kernel_rfl) (y_extract rfl rfl) rfl (no_guard rfl) rfl (fun _ _ _ h => h) ?_
          refine d_val (i := 7) rfl (by kernel_rfl) (by kernel_rfl) (by kernel_rfl) (y_extract rfl rfl) rfl (no_guard rfl) rfl (fun _ _ _ h => h) ?_
          refine d_ready (i := 9) (rs := []) (by kernel_rfl) (.cons (.there .here) (.cons (.there .here) (.cons (.there .here) (.skip .refl)))) (all_one ?_)
          refine o_does rfl rfl rfl (g_storeN (vs := [_, _, _, _, _, _, _, _, _, _, _, _, _, _, _, _]) (cs' := [_, _, _, _, _, _, _, _, _, _, _, _, _, _, _, _]) sz_67 rfl rfl rfl rfl rfl rfl rfl .here) ?_
          intro _ _
          refine d_val (i := 10) rfl (by kernel_rfl) (by kernel_rfl) (by kernel_rfl) (y_assign rfl) rfl (no_guard rfl) rfl (fun _ _ _ h => h) ?_
          refine d_end (by kernel_rfl) (.cons (.there .here) (.cons (.there .here) (.cons (.there .here) (.skip .refl)))) ?_
          exact q_cut b8 trivial ⟨rfl, rfl, rfl, rfl, rfl, rfl, rfl, rfl, rfl, trivial⟩ (.cons .here (.cons .here (.cons .here (.cons .here .refl))))
      intro b8 _
      refine q_then ?_
      refine c_seq ?_
      -- region 16
      refine c_region ?_
      refine l_val (y_move rfl) rfl rfl rfl ?_
      refine l_val (y_move rfl) rfl rfl rfl ?_
      refine l_want rfl rfl ?_
      refine l_val (y_move rfl) rfl rfl rfl ?_
      refine l_val (y_pick rfl rfl rfl) rfl rfl rfl ?_
      refine l_val (y_move rfl) rfl rfl rfl ?_
      refine l_want rfl rfl ?_
      refine l_val (y_fieldAddr fo_38_7 rfl) rfl rfl rfl ?_
      refine l_want rfl rfl ?_
      refine l_val (y_load1 ld_3 rfl m1 rfl) rfl rfl rfl ?_
      refine l_want rfl rfl ?_
      refine l_val (y_bin rfl rfl rfl (boolT hcl)) rfl rfl rfl ?_
      refine l_val (y_pick rfl rfl rfl) rfl rfl rfl ?_
      refine l_val (y_move rfl) rfl rfl rfl ?_
      refine l_want rfl rfl ?_
      refine l_val (y_fieldAddr fo_38_8 rfl) rfl rfl rfl ?_
      refine l_want rfl rfl ?_
      refine l_val (y_load1 ld_3 rfl m1 rfl) rfl rfl rfl ?_
      refine l_want rfl rfl ?_
      refine l_val (y_bin rfl rfl rfl (boolT hru)) rfl rfl rfl ?_
      refine l_val (y_pick rfl rfl rfl) rfl rfl rfl ?_
      refine l_val (y_assign rfl) rfl rfl rfl ?_
      refine l_nil ?_
      refine q_then ?_
      -- region 17
      refine c_region ?_
      refine l_val (y_fieldAddr fo_53_2 rfl) rfl rfl rfl ?_
      refine l_val (y_load1 ld_45 rfl m2 rfl) rfl rfl rfl ?_
      refine l_val (y_loadN (vs := [_, _, _, _, _, _, _, _, _, _, _, _, _, _, _, _]) ld_67 rfl m0 rfl rfl) rfl rfl rfl ?_
      refine l_gives rfl rfl (g_buildSlice (cs := GL.cells (ofO (decide (2 ≤ dir)) g) ++ []) sl_45 sz_67 ze_67 rfl rfl rfl rfl (by simp [Value.cells]) rfl rfl) rfl ?_
      intro b106 hb106
      refine l_gives rfl rfl (g_appendT (by_ := 80) [_, _, _, _, _] sl_45 inf_67 rfl rfl rfl rfl (by decide) rfl rfl hok rfl m0 rfl (GL.one _) (by unfold maxLen; omega) (by omega)) rfl ?_
      intro sv1 hok1
      rw [mapG_enc (decide (2 ≤ dir)) gs k g hg, mapG_len (decide (2 ≤ dir)) gs k g hg] at hok1
      rw [mapG_enc (decide (2 ≤ dir)) gs k g hg, mapG_len (decide (2 ≤ dir)) gs k g hg]
      refine l_val (y_fieldAddr fo_53_2 rfl) rfl rfl rfl ?_
      refine l_does rfl rfl (g_store1 (cs' := [_, _, _, _, _, _, _, _, _, _, _, _, _, _]) sz_45 rfl rfl (slV_cells _ _) rfl (slV_one _ _) rfl (.there (.there (.there .here)))) ?_
      intro _ _
      refine l_nil ?_
      refine q_block ?_
      refine q_then ?_
      -- region 18
      refine c_region ?_
      refine l_val (y_bin rfl rfl rfl (fitN (m := k + 1) (by omega) (by omega))) rfl rfl rfl ?_
      refine l_val (y_move rfl) rfl rfl rfl ?_
      refine l_nil ?_
      exact q_rnd (k + 1, sv1) ⟨hk2, hok1⟩ (by simp only; omega) ⟨rfl, rfl, rfl, rfl, rfl, rfl, trivial⟩ (.cons (.there (.there (.there .here))) (.cons (.there (.there (.there .here))) (.skip (.skip (.skip .refl)))))
    · skip
      have hk2 : k = gs.length := by simp at hc78; omega
      subst hk2
      rw [List.take_length] at hok ⊢
      refine c_exit ?_
      refine q_then_exit ?_
      refine q_rnd_exit ?_
      refine q_block_exit ?_
      refine q_then ?_
      refine c_seq ?_
      refine c_seq ?_
      -- region 19
      refine c_region ?_
      refine l_val (y_assign rfl) rfl rfl rfl ?_
      refine l_nil ?_
      refine q_then ?_
      refine c_block ?_
      obtain ⟨bs, hbs0, hbs⟩ := hcl0
      refine c_loop (ι := Nat × List (List OG)) (φ := fun x => gs.drop x.1 = x.2.flatten ∧ x.1 + x.2.flatten.length = gs.length ∧ ∀ b ∈ x.2, Blk1 b) (L' := fun x => [(1, .pointer (some ⟨b1, 0, none⟩)), (2, .pointer (some ⟨b2, 0, none⟩)), (3, .bool true), (10, .int .i64 (x.1 : Int))]) (H' := fun _ => (b2, oC ad up dn gp dir (slV sv (gs.map (ofO (decide (2 ≤ dir)))).length), 53) :: (b1, uC dir ad up dn gp (.slice A gs.length cap), 24) :: slH sv (encG (gs.map (ofO (decide (2 ≤ dir))))) 67) (fun x => x.2.length) (0, bs) ⟨by simpa using hbs0, by simp [hbs0], hbs⟩ ⟨rfl, rfl, rfl, rfl, trivial⟩ (.cons .here (.cons .here .refl)) ?_
      intro ⟨i, bs2⟩ ⟨hd0, hd3, hbs⟩
      simp only at hd0 hd3 hbs ⊢
      refine c_seq ?_
      refine c_seq ?_
      -- region 20
      refine c_region ?_
      refine l_val (y_move rfl) rfl rfl rfl ?_
      refine l_val (y_move rfl) rfl rfl rfl ?_
      refine l_want rfl rfl ?_
      refine l_val (y_move rfl) rfl rfl rfl ?_
      refine l_want rfl rfl ?_
      refine l_val (y_fieldAddr fo_24_5 rfl) rfl rfl rfl ?_
      refine l_want rfl rfl ?_
      refine l_val (y_load1 ld_22 rfl m1 rfl) rfl rfl rfl ?_
      refine l_want rfl rfl ?_
      refine l_val (y_len sl_22 rfl) rfl rfl rfl ?_
      refine l_want rfl rfl ?_
      refine l_val (y_bin rfl rfl rfl rfl) rfl rfl rfl ?_
      refine l_val (y_pick rfl rfl rfl) rfl rfl rfl ?_
      refine l_nil ?_
      refine q_then ?_
      refine c_cond rfl (fun hc117 => ?_) (fun hc117 => ?_)
      · skip
        have hk2 : i < gs.length := by simpa using hc117
        obtain ⟨b, r, y0, rfl, hy0, hgl, hb1, hb2, hall, hd1, hd2, hr1⟩ := cl_step hd0 hd3 hbs hk2
        obtain ⟨p, rfl, hpb, hpc⟩ := hR i y0 hy0
        refine c_skip ?_
        refine q_then ?_
        refine c_block ?_
        refine c_seq ?_
        -- region 21
        refine c_region ?_
        refine l_val (y_fieldAddr fo_24_5 rfl) rfl rfl rfl ?_
        refine l_val (y_load1 ld_22 rfl m1 rfl) rfl rfl rfl ?_
        refine l_val (y_move rfl) rfl rfl rfl ?_
        refine l_val (y_indexAddr es_22 rfl rfl hk2) rfl rfl rfl ?_
        refine l_val (y_oldLoadN (vs := OG.cells y0) ld_38 rfl (by rw [block_add]; exact hpb) (by simp) rfl (fun j v hj => by rw [add_add]; exact hpc j v hj)) rfl rfl rfl ?_
        refine l_gives rfl rfl (g_alloc ze_38) rfl ?_
        intro b11 hb11
        refine l_does rfl rfl (g_storeN (vs := [_, _, _, _, _, _, _, _, _, _]) (cs' := [_, _, _, _, _, _, _, _, _, _]) sz_38 rfl rfl rfl rfl rfl rfl rfl .here) ?_
        intro _ _
        refine l_nil ?_
        refine q_then ?_
        refine c_seq ?_
        refine c_seq ?_
        -- region 22
        refine c_region ?_
        refine l_val (y_fieldAddr fo_38_9 rfl) rfl rfl rfl ?_
        refine l_val (y_load1 ld_3 rfl m0 rfl) rfl rfl rfl ?_
        refine l_val (y_bin rfl rfl rfl (boolF (by omega))) rfl rfl rfl ?_
        refine l_val (y_move rfl) rfl rfl rfl ?_
        refine l_want rfl rfl ?_
        refine l_val (y_fieldAddr fo_38_9 rfl) rfl rfl rfl ?_
        refine l_want rfl rfl ?_
        refine l_val (y_load1 ld_3 rfl m0 rfl) rfl rfl rfl ?_
        refine l_want rfl rfl ?_
        refine l_val (y_fieldAddr fo_24_5 rfl) rfl rfl rfl ?_
        refine l_want rfl rfl ?_
        refine l_val (y_load1 ld_22 rfl m2 rfl) rfl rfl rfl ?_
        refine l_want rfl rfl ?_
        refine l_val (y_len sl_22 rfl) rfl rfl rfl ?_
        refine l_want rfl rfl ?_
        refine l_val (y_move rfl) rfl rfl rfl ?_
        refine l_want rfl rfl ?_
        refine l_val (y_bin rfl rfl rfl (fit64 (by omega) (by omega))) rfl rfl rfl ?_
        refine l_want rfl rfl ?_
        refine l_val (y_bin rfl rfl rfl (boolF (by omega))) rfl rfl rfl ?_
        refine l_val (y_pick rfl rfl rfl) rfl rfl rfl ?_
        refine l_nil ?_
        refine q_then ?_
        refine c_false rfl rfl ?_
        refine c_skip ?_
        refine q_then ?_
        refine c_seq ?_
        refine c_seq ?_
        -- region 24
        refine c_region ?_
        refine l_val (y_fieldAddr fo_24_5 rfl) rfl rfl rfl ?_
        refine l_val (y_load1 ld_22 rfl m2 rfl) rfl rfl rfl ?_
        refine l_val (y_move rfl) rfl rfl rfl ?_
        refine l_val (y_move rfl) rfl rfl rfl ?_
        refine l_val (y_fieldAddr fo_38_9 rfl) rfl rfl rfl ?_
        refine l_val (y_load1 ld_3 rfl m0 rfl) rfl rfl rfl ?_
        refine l_val (y_bin rfl rfl rfl (fitN (m := i + b.length) (by omega) (by omega))) rfl rfl rfl ?_
        refine l_val (y_sliceLH es_22 rfl rfl rfl (by omega) (by omega) (by omega)) rfl rfl rfl ?_
        refine l_val (y_len sl_22 rfl) rfl rfl rfl ?_
        refine l_val (y_move rfl) rfl rfl rfl ?_
        refine l_nil ?_
        refine q_then ?_
        refine c_block ?_
        refine c_loop (ι := Nat) (φ := fun j => j ≤ b.length) (L' := fun j => [(1, .pointer (some ⟨b1, 0, none⟩)), (2, .pointer (some ⟨b2, 0, none⟩)), (3, .bool true), (10, .int .i64 (i : Int)), (11, .pointer (some ⟨b11, 0, none⟩)), (144, .slice (some (p.add (i * 10))) (i + b.length - i) (cap - i)), (145, .int .i64 ((i + b.length - i : Nat) : Int)), (146, .int .i64 (j : Int))]) (H' := fun _ => (b11, OG.cells y0, 38) :: (b2, oC ad up dn gp dir (slV sv (gs.map (ofO (decide (2 ≤ dir)))).length), 53) :: (b1, uC dir ad up dn gp (.slice (some p) gs.length cap), 24) :: slH sv (encG (gs.map (ofO (decide (2 ≤ dir))))) 67) (fun j => b.length - j) 0 (Nat.zero_le _) ⟨rfl, rfl, rfl, rfl, rfl, rfl, rfl, rfl, trivial⟩ (.cons .here (.cons .here (.cons .here .refl))) ?_
        intro j hj
        refine c_seq ?_
        -- region 25
        refine c_region ?_
        refine l_val (y_bin rfl rfl rfl rfl) rfl rfl rfl ?_
        refine l_nil ?_
        refine q_then ?_
        refine c_seq ?_
        refine c_cond rfl (fun hc147 => ?_) (fun hc147 => ?_)
        · skip
          have hj3 : j < i + b.length - i := by simp only [decide_eq_true_eq] at hc147; omega
          obtain ⟨y, hy, hy1, hy2, hy3⟩ := hall j (by omega)
          refine c_skip ?_
          refine q_then ?_
          refine c_seq ?_
          refine c_block ?_
          refine c_seq ?_
          -- region 26
          refine c_region ?_
          refine l_val (y_indexAddr es_22 rfl rfl hj3) rfl rfl rfl ?_
          refine l_val (y_oldLoadN (vs := OG.cells y) ld_38 rfl (by rw [block_add, block_add]; exact hpb) (by simp) rfl (hR.at2 hy)) rfl rfl rfl ?_
          refine l_gives rfl rfl (g_alloc ze_38) rfl ?_
          intro b13 hb13
          refine l_does rfl rfl (g_storeN (vs := [_, _, _, _, _, _, _, _, _, _]) (cs' := [_, _, _, _, _, _, _, _, _, _]) sz_38 rfl rfl rfl rfl rfl rfl rfl .here) ?_
          intro _ _
          refine l_nil ?_
          refine q_then ?_
          -- region 27
          refine c_region ?_
          refine l_val (y_move rfl) rfl rfl rfl ?_
          refine l_val (y_move rfl) rfl rfl rfl ?_
          refine l_want rfl rfl ?_
          refine l_val (y_fieldAddr fo_38_7 rfl) rfl rfl rfl ?_
          refine l_want rfl rfl ?_
          refine l_val (y_load1 ld_3 rfl m0 rfl) rfl rfl rfl ?_
          refine l_want rfl rfl ?_
          refine l_val (y_fieldAddr fo_38_7 rfl) rfl rfl rfl ?_
          refine l_want rfl rfl ?_
          refine l_val (y_load1 ld_3 rfl m1 rfl) rfl rfl rfl ?_
          refine l_want rfl rfl ?_
          refine l_val (y_bin rfl rfl rfl (boolEq hy1)) rfl rfl rfl ?_
          refine l_val (y_pick rfl rfl rfl) rfl rfl rfl ?_
          refine l_val (y_move rfl) rfl rfl rfl ?_
          refine l_want rfl rfl ?_
          refine l_val (y_fieldAddr fo_38_8 rfl) rfl rfl rfl ?_
          refine l_want rfl rfl ?_
          refine l_val (y_load1 ld_3 rfl m0 rfl) rfl rfl rfl ?_
          refine l_want rfl rfl ?_
          refine l_val (y_fieldAddr fo_38_8 rfl) rfl rfl rfl ?_
          refine l_want rfl rfl ?_
          refine l_val (y_load1 ld_3 rfl m1 rfl) rfl rfl rfl ?_
          refine l_want rfl rfl ?_
          refine l_val (y_bin rfl rfl rfl (boolEq hy2)) rfl rfl rfl ?_
          refine l_val (y_pick rfl rfl rfl) rfl rfl rfl ?_
          refine l_val (y_move rfl) rfl rfl rfl ?_
          refine l_want rfl rfl ?_
          refine l_val (y_fieldAddr fo_38_9 rfl) rfl rfl rfl ?_
          refine l_want rfl rfl ?_
          refine l_val (y_load1 ld_3 rfl m0 rfl) rfl rfl rfl ?_
          refine l_want rfl rfl ?_
          refine l_val (y_fieldAddr fo_38_9 rfl) rfl rfl rfl ?_
          refine l_want rfl rfl ?_
          refine l_val (y_load1 ld_3 rfl m1 rfl) rfl rfl rfl ?_
          refine l_want rfl rfl ?_
          refine l_val (y_bin rfl rfl rfl (boolEq hy3)) rfl rfl rfl ?_
          refine l_val (y_pick rfl rfl rfl) rfl rfl rfl ?_
          refine l_val (y_assign rfl) rfl rfl rfl ?_
          refine l_nil ?_
          refine q_block ?_
          refine q_then ?_
          -- region 28
          refine c_region ?_
          refine l_val (y_bin rfl rfl rfl (fitN (m := j + 1) (by omega) (by omega))) rfl rfl rfl ?_
          refine l_val (y_move rfl) rfl rfl rfl ?_
          refine l_nil ?_
          exact q_rnd (j + 1) (by omega) (by omega) ⟨rfl, rfl, rfl, rfl, rfl, rfl, rfl, rfl, trivial⟩ (.cons (.there .here) (.cons (.there .here) (.cons (.there .here) (.skip .refl))))
        · skip
          have hj4 : j = b.length := by simp only [decide_eq_false_iff_not] at hc147; omega
          refine c_exit ?_
          refine q_then_exit ?_
          refine q_rnd_exit ?_
          refine q_block_exit ?_
          refine q_then ?_
          -- region 29
          refine c_region ?_
          refine l_val (y_move rfl) rfl rfl rfl ?_
          refine l_val (y_fieldAddr fo_38_9 rfl) rfl rfl rfl ?_
          refine l_val (y_load1 ld_3 rfl m0 rfl) rfl rfl rfl ?_
          refine l_val (y_bin rfl rfl rfl (fitN (m := i + b.length) (by omega) (by omega))) rfl rfl rfl ?_
          refine l_val (y_assign rfl) rfl rfl rfl ?_
          refine l_nil ?_
          refine q_block ?_
          exact q_rnd (i + b.length, r) ⟨hd1, hd2, hr1⟩ (by simp only [List.length_cons]; omega) ⟨rfl, rfl, rfl, rfl, trivial⟩ (.cons (.there .here) (.cons (.there .here) (.skip .refl)))
      · skip
        refine c_exit ?_
        refine q_then_exit ?_
        refine q_rnd_exit ?_
        refine q_block_exit ?_
        refine q_then ?_
        refine c_seq ?_
        -- region 30
        refine c_region ?_
        refine l_val (y_loadN (vs := [_, _, _, _, _, _, _, _, _, _, _, _, _, _]) ld_53 rfl m0 rfl rfl) rfl rfl rfl ?_
        refine l_val (y_move rfl) rfl rfl rfl ?_
        refine l_does rfl rfl (g_storeN (vs := [_, _, _, _, _, _, _, _, _, _, _, _, _, _]) (cs' := [_, _, _, _, _, _, _, _, _, _, _, _, _, _]) sz_53 rfl rfl rfl rfl rfl (oC_one _ _ _ _ _ _ _) rfl .here) ?_
        intro _ _
        refine l_val (y_assign rfl) rfl rfl rfl ?_
        refine l_nil ?_
        refine q_then ?_
        refine c_ret ?_
        exact body_ret (rs := [.cell 2 53, .tmp 3]) rfl (vs := [.agg (oC ad up dn gp dir (slV sv (gs.map (ofO (decide (2 ≤ dir)))).length)).toArray, .bool true]) ⟨⟨b2, 0, _, _, rfl, m0, .inr ⟨14, _, ld_53, rfl, rfl, rfl⟩⟩, rfl, trivial⟩ (out_end sv hok rfl (.skip (.skip .refl))) _ (.inr rfl)

end Go.Proofs.Ytbepljmeflndkaa
