/- outGlyph, outTold. -/
import Derived.Test.YtbepljmeflndkaaA
import Derived.Test.YtbepljmeflndkaaD
import Derived.Test.YtbepljmeflndkaaF
namespace Go.Proofs.Ytbepljmeflndkaa
open Go.Eng
set_option maxRecDepth 100000
attribute [local irreducible] IntKind.wrap Int.tdiv Int.tmod Int.emod sm encO encG maxLen

set_option maxHeartbeats 1000000 in
theorem f31_any (w : World) (g : OG) (v : Bool) (hB : OB g) :
    Calls Try.prog 31 [Value.agg (OG.cells g).toArray, .bool v].toArray w (Out w [] (fun _ : Unit => True) (fun _ => .tuple #[.agg (GL.cells (ofO v g)).toArray, .bool true]) (fun _ => [])) := by
  refine enter (n := 71) Try.func31 rfl rfl rfl (Hp.refl w) ?_
  refine c_seq ?_
  -- region 0
  refine c_region ?_
  refine l_gives rfl rfl (g_box (vs := [_, _, _, _, _, _, _, _, _, _]) rfl rfl) rfl ?_
  intro b2 hb2
  refine l_gives rfl rfl (g_alloc ze_67) rfl ?_
  intro b4 hb4
  refine l_val (y_assign rfl) rfl rfl rfl ?_
  refine l_nil ?_
  refine q_then ?_
  refine c_seq ?_
  -- region 1
  refine c_region ?_
  refine l_val (y_assign rfl) rfl rfl rfl ?_
  refine l_nil ?_
  refine q_then ?_
  refine c_seq ?_
  refine c_seq ?_
  -- region 2
  refine c_region ?_
  refine l_val (y_fieldAddr fo_38_0 rfl) rfl rfl rfl ?_
  refine l_val (y_load1 ld_3 rfl m1 rfl) rfl rfl rfl ?_
  refine l_val (y_fieldAddr fo_38_1 rfl) rfl rfl rfl ?_
  refine l_val (y_load1 ld_3 rfl m1 rfl) rfl rfl rfl ?_
  refine l_val (y_fieldAddr fo_38_2 rfl) rfl rfl rfl ?_
  refine l_val (y_load1 ld_3 rfl m1 rfl) rfl rfl rfl ?_
  refine l_val (y_fieldAddr fo_38_3 rfl) rfl rfl rfl ?_
  refine l_val (y_load1 ld_3 rfl m1 rfl) rfl rfl rfl ?_
  refine l_val (y_fieldAddr fo_38_4 rfl) rfl rfl rfl ?_
  refine l_val (y_load1 ld_3 rfl m1 rfl) rfl rfl rfl ?_
  refine l_val (y_fieldAddr fo_38_5 rfl) rfl rfl rfl ?_
  refine l_val (y_load1 ld_3 rfl m1 rfl) rfl rfl rfl ?_
  refine l_val (y_fieldAddr fo_38_6 rfl) rfl rfl rfl ?_
  refine l_val (y_load1 ld_3 rfl m1 rfl) rfl rfl rfl ?_
  refine l_gives rfl rfl (g_buildSlice (cs := [_, _, _, _, _, _, _]) sl_63 sz_3 ze_3 rfl rfl rfl rfl (by simp [Value.cells]) rfl rfl) rfl ?_
  intro b22 hb22
  refine l_val (y_len sl_63 rfl) rfl rfl rfl ?_
  refine l_val (y_move rfl) rfl rfl rfl ?_
  refine l_nil ?_
  refine q_then ?_
  refine c_block ?_
  refine c_loop (ι := Nat) (φ := fun j => j ≤ 7) (L' := fun j => [(1, .bool v), (2, .pointer (some ⟨b2, 0, none⟩)), (4, .pointer (some ⟨b4, 0, none⟩)), (5, .bool true), (22, .slice (some ⟨b22, 0, none⟩) 7 7), (23, .int .i64 (7 : Nat)), (24, .int .i64 (j : Int))]) (H' := fun _ => (b22, [.int .i64 g.w, .int .i64 g.h, .int .i64 g.xb, .int .i64 g.yb, .int .i64 g.ad, .int .i64 g.xo, .int .i64 g.yo], 3) :: (b4, [.int .i32 0, .int .i32 0, .int .i32 0, .int .i32 0, .int .i32 0, .int .i32 0, .int .i32 0, .int .i32 0, .int .i32 0, .int .i64 0, .int .i64 0, .int .i64 0, .int .u32 0, .int .u32 0, .int .i32 0, .int .i32 0], 67) :: (b2, OG.cells g, 38) :: []) (fun j => 7 - j) 0 (Nat.zero_le _) ⟨rfl, rfl, rfl, rfl, rfl, rfl, rfl, trivial⟩ (.cons .here (.cons .here (.cons .here .nil))) ?_
  intro j hj
  refine c_seq ?_
  -- region 3
  refine c_region ?_
  refine l_val (y_bin rfl rfl rfl rfl) rfl rfl rfl ?_
  refine l_nil ?_
  refine q_then ?_
  refine c_seq ?_
  refine c_cond rfl (fun hc25 => ?_) (fun hc25 => ?_)
  · skip
    have hj2 : j < 7 := by simp only [decide_eq_true_eq] at hc25; omega
    obtain ⟨x, hx, hxb⟩ := seven hB.w hB.h hB.xb hB.yb hB.ad hB.xo hB.yo hj2
    refine c_skip ?_
    refine q_then ?_
    refine c_seq ?_
    refine c_block ?_
    refine c_seq ?_
    -- region 4
    refine c_region ?_
    refine l_val (y_indexAddrOwn es_63 rfl rfl hj2) rfl rfl rfl ?_
    refine l_val (y_load1 ld_3 rfl m0 hx) rfl rfl rfl ?_
    refine l_val (y_assign rfl) rfl rfl rfl ?_
    refine l_nil ?_
    refine q_then ?_
    -- region 5
    refine c_region ?_
    refine l_val (y_move rfl) rfl rfl rfl ?_
    refine l_val (y_move rfl) rfl rfl rfl ?_
    refine l_want rfl rfl ?_
    refine l_val (y_move rfl) rfl rfl rfl ?_
    refine l_want rfl rfl ?_
    refine l_call ok_25 rfl rfl (out_calm (fun w1 => f25_any x hxb w1)) ?_
    intro _ _
    refine l_val (y_pick rfl rfl rfl) rfl rfl rfl ?_
    refine l_val (y_assign rfl) rfl rfl rfl ?_
    refine l_nil ?_
    refine q_block ?_
    refine q_then ?_
    -- region 6
    refine c_region ?_
    refine l_val (y_bin rfl rfl rfl (fitN (m := j + 1) (by omega) (by omega))) rfl rfl rfl ?_
    refine l_val (y_move rfl) rfl rfl rfl ?_
    refine l_nil ?_
    exact q_rnd (j + 1) hj2 (by omega) ⟨rfl, rfl, rfl, rfl, rfl, rfl, rfl, trivial⟩ (.cons .here (.cons .here (.cons .here .nil)))
  · skip
    refine c_exit ?_
    refine q_then_exit ?_
    refine q_rnd_exit ?_
    refine q_block_exit ?_
    refine q_then ?_
    refine c_seq ?_
    -- region 7
    refine c_region ?_
    refine l_val (y_fieldAddr fo_38_0 rfl) rfl rfl rfl ?_
    refine l_val (y_load1 ld_3 rfl m2 rfl) rfl rfl rfl ?_
    refine l_val (y_conv cv_3_44 rfl (fitI hB.w)) rfl rfl rfl ?_
    refine l_val (y_fieldAddr fo_38_1 rfl) rfl rfl rfl ?_
    refine l_val (y_load1 ld_3 rfl m2 rfl) rfl rfl rfl ?_
    refine l_val (y_conv cv_3_44 rfl (fitI hB.h)) rfl rfl rfl ?_
    refine l_val (y_fieldAddr fo_38_2 rfl) rfl rfl rfl ?_
    refine l_val (y_load1 ld_3 rfl m2 rfl) rfl rfl rfl ?_
    refine l_val (y_conv cv_3_44 rfl (fitI hB.xb)) rfl rfl rfl ?_
    refine l_val (y_fieldAddr fo_38_3 rfl) rfl rfl rfl ?_
    refine l_val (y_load1 ld_3 rfl m2 rfl) rfl rfl rfl ?_
    refine l_val (y_conv cv_3_44 rfl (fitI hB.yb)) rfl rfl rfl ?_
    refine l_val (y_fieldAddr fo_38_4 rfl) rfl rfl rfl ?_
    refine l_val (y_load1 ld_3 rfl m2 rfl) rfl rfl rfl ?_
    refine l_val (y_conv cv_3_44 rfl (fitI hB.ad)) rfl rfl rfl ?_
    refine l_val (y_fieldAddr fo_38_5 rfl) rfl rfl rfl ?_
    refine l_val (y_load1 ld_3 rfl m2 rfl) rfl rfl rfl ?_
    refine l_val (y_conv cv_3_44 rfl (fitI hB.xo)) rfl rfl rfl ?_
    refine l_val (y_fieldAddr fo_38_6 rfl) rfl rfl rfl ?_
    refine l_val (y_load1 ld_3 rfl m2 rfl) rfl rfl rfl ?_
    refine l_val (y_conv cv_3_44 rfl (fitI hB.yo)) rfl rfl rfl ?_
    refine l_val (y_fieldAddr fo_38_7 rfl) rfl rfl rfl ?_
    refine l_val (y_load1 ld_3 rfl m2 rfl) rfl rfl rfl ?_
    refine l_val (y_fieldAddr fo_38_8 rfl) rfl rfl rfl ?_
    refine l_val (y_load1 ld_3 rfl m2 rfl) rfl rfl rfl ?_
    refine l_val (y_fieldAddr fo_38_9 rfl) rfl rfl rfl ?_
    refine l_val (y_load1 ld_3 rfl m2 rfl) rfl rfl rfl ?_
    refine l_val (y_build1 (out := [_, _, _, _, _, _, _, _, _, _, _, _, _, _, _, _]) bp_67 rfl rfl rfl) rfl rfl rfl ?_
    refine l_does rfl rfl (g_storeN (vs := [_, _, _, _, _, _, _, _, _, _, _, _, _, _, _, _]) (cs' := [_, _, _, _, _, _, _, _, _, _, _, _, _, _, _, _]) sz_67 rfl rfl rfl rfl rfl rfl rfl (.there .here)) ?_
    intro _ _
    refine l_nil ?_
    refine q_then ?_
    refine c_seq ?_
    refine c_seq ?_
    -- region 8
    refine c_region ?_
    refine l_val (y_move rfl) rfl rfl rfl ?_
    refine l_nil ?_
    refine q_then ?_
    refine c_cond rfl (fun hc62 => ?_) (fun hc62 => ?_)
    · skip
      subst hc62
      -- region 9
      refine c_region ?_
      refine l_val (y_fieldAddr fo_67_4 rfl) rfl rfl rfl ?_
      refine l_val (y_load1 ld_44 rfl m1 rfl) rfl rfl rfl ?_
      refine l_val (y_fieldAddr fo_67_6 rfl) rfl rfl rfl ?_
      refine l_does rfl rfl (g_store1 (cs' := [_, _, _, _, _, _, _, _, _, _, _, _, _, _, _, _]) sz_44 rfl rfl rfl rfl rfl rfl (.there .here)) ?_
      intro _ _
      refine l_nil ?_
      refine q_then ?_
      refine c_seq ?_
      -- region 11
      refine c_region ?_
      refine l_val (y_loadN (vs := [_, _, _, _, _, _, _, _, _, _, _, _, _, _, _, _]) ld_67 rfl m1 rfl rfl) rfl rfl rfl ?_
      refine l_val (y_move rfl) rfl rfl rfl ?_
      refine l_does rfl rfl (g_storeN (vs := [_, _, _, _, _, _, _, _, _, _, _, _, _, _, _, _]) (cs' := [_, _, _, _, _, _, _, _, _, _, _, _, _, _, _, _]) sz_67 rfl rfl rfl rfl rfl rfl rfl (.there .here)) ?_
      intro _ _
      refine l_val (y_assign rfl) rfl rfl rfl ?_
      refine l_nil ?_
      refine q_then ?_
      refine c_ret ?_
      exact body_ret (rs := [.cell 4 67, .tmp 5]) rfl (vs := [.agg (GL.cells (ofO _ g)).toArray, .bool true]) ⟨⟨b4, 0, _, _, rfl, m1, .inr ⟨16, _, ld_67, rfl, rfl, rfl⟩⟩, rfl, trivial⟩ (out_end () trivial rfl .nil) _ (.inr rfl)
    · skip
      subst hc62
      -- region 10
      refine c_region ?_
      refine l_val (y_fieldAddr fo_67_4 rfl) rfl rfl rfl ?_
      refine l_val (y_load1 ld_44 rfl m1 rfl) rfl rfl rfl ?_
      refine l_val (y_fieldAddr fo_67_5 rfl) rfl rfl rfl ?_
      refine l_does rfl rfl (g_store1 (cs' := [_, _, _, _, _, _, _, _, _, _, _, _, _, _, _, _]) sz_44 rfl rfl rfl rfl rfl rfl (.there .here)) ?_
      intro _ _
      refine l_nil ?_
      refine q_then ?_
      refine c_seq ?_
      -- region 11
      refine c_region ?_
      refine l_val (y_loadN (vs := [_, _, _, _, _, _, _, _, _, _, _, _, _, _, _, _]) ld_67 rfl m1 rfl rfl) rfl rfl rfl ?_
      refine l_val (y_move rfl) rfl rfl rfl ?_
      refine l_does rfl rfl (g_storeN (vs := [_, _, _, _, _, _, _, _, _, _, _, _, _, _, _, _]) (cs' := [_, _, _, _, _, _, _, _, _, _, _, _, _, _, _, _]) sz_67 rfl rfl rfl rfl rfl rfl rfl (.there .here)) ?_
      intro _ _
      refine l_val (y_assign rfl) rfl rfl rfl ?_
      refine l_nil ?_
      refine q_then ?_
      refine c_ret ?_
      exact body_ret (rs := [.cell 4 67, .tmp 5]) rfl (vs := [.agg (GL.cells (ofO _ g)).toArray, .bool true]) ⟨⟨b4, 0, _, _, rfl, m1, .inr ⟨16, _, ld_67, rfl, rfl, rfl⟩⟩, rfl, trivial⟩ (out_end () trivial rfl .nil) _ (.inr rfl)

set_option maxHeartbeats 2000000 in
theorem f21_any (w : World) (A : Option Addr) (cap : Nat) (gs : List GL) (ad up dn gp dir : Int) (gv : Value) (hgv : gv = .slice A gs.length cap) (hR : RdG w A gs) (hB : ∀ g ∈ gs, GB g) (hlen : gs.length ≤ 1000)
    (had : b32 ad) (hup : b32 up) (hdn : b32 dn) (hgp : b32 gp) (hdir : 0 ≤ dir ∧ dir ≤ 3) :
    Calls Try.prog 21 [Value.agg (oC ad up dn gp dir gv).toArray].toArray w (Out w [] (fun sv : Sv => slOk sv (gs.map toO).length 10 (encO (gs.map toO))) (fun sv => .agg (uC dir ad up dn gp (slV sv (gs.map toO).length)).toArray) (fun sv => slH sv (encO (gs.map toO)) 38)) := by
  subst hgv
  refine enter (n := 66) Try.func21 rfl rfl rfl (Hp.refl w) ?_
  refine c_seq ?_
  -- region 0
  refine c_region ?_
  refine l_gives rfl rfl (g_box (vs := [_, _, _, _, _, _, _, _, _, _, _, _, _, _]) rfl rfl) rfl ?_
  intro b1 hb1
  refine l_gives rfl rfl (g_alloc ze_24) rfl ?_
  intro b2 hb2
  refine l_nil ?_
  refine q_then ?_
  refine c_seq ?_
  -- region 1
  refine c_region ?_
  refine l_val (y_fieldAddr fo_53_5 rfl) rfl rfl rfl ?_
  refine l_val (y_load1 ld_48 rfl m1 rfl) rfl rfl rfl ?_
  refine l_val (y_conv cv_48_3 rfl (fit64 (by omega) (by omega))) rfl rfl rfl ?_
  refine l_val (y_fieldAddr fo_53_0 rfl) rfl rfl rfl ?_
  refine l_val (y_load1 ld_44 rfl m1 rfl) rfl rfl rfl ?_
  refine l_val (y_conv cv_44_3 rfl (fitB had)) rfl rfl rfl ?_
  refine l_val (y_fieldAddr fo_53_4 rfl) rfl rfl rfl ?_
  refine l_val (y_fieldAddr fo_47_0 rfl) rfl rfl rfl ?_
  refine l_val (y_load1 ld_44 rfl m1 rfl) rfl rfl rfl ?_
  refine l_val (y_conv cv_44_3 rfl (fitB hup)) rfl rfl rfl ?_
  refine l_val (y_fieldAddr fo_53_4 rfl) rfl rfl rfl ?_
  refine l_val (y_fieldAddr fo_47_1 rfl) rfl rfl rfl ?_
  refine l_val (y_load1 ld_44 rfl m1 rfl) rfl rfl rfl ?_
  refine l_val (y_conv cv_44_3 rfl (fitB hdn)) rfl rfl rfl ?_
  refine l_val (y_fieldAddr fo_53_4 rfl) rfl rfl rfl ?_
  refine l_val (y_fieldAddr fo_47_2 rfl) rfl rfl rfl ?_
  refine l_val (y_load1 ld_44 rfl m1 rfl) rfl rfl rfl ?_
  refine l_val (y_conv cv_44_3 rfl (fitB hgp)) rfl rfl rfl ?_
  refine l_val (y_build1 (out := [_, _, _, _, _, _]) bp_24 rfl rfl rfl) rfl rfl rfl ?_
  refine l_does rfl rfl (g_storeN (vs := [_, _, _, _, _, _]) (cs' := [_, _, _, _, _, _]) sz_24 rfl rfl rfl rfl rfl rfl rfl .here) ?_
  intro _ _
  refine l_nil ?_
  refine q_then ?_
  refine c_seq ?_
  refine c_seq ?_
  -- region 2
  refine c_region ?_
  refine l_val (y_fieldAddr fo_53_2 rfl) rfl rfl rfl ?_
  refine l_val (y_load1 ld_45 rfl m1 rfl) rfl rfl rfl ?_
  refine l_val (y_len sl_45 rfl) rfl rfl rfl ?_
  refine l_val (y_move rfl) rfl rfl rfl ?_
  refine l_nil ?_
  refine q_then ?_
  refine c_block ?_
  refine c_loop (ι := Nat × Sv) (φ := fun x => x.1 ≤ gs.length ∧ slOk x.2 ((gs.take x.1).map toO).length 10 (encO ((gs.take x.1).map toO))) (L' := fun x => [(1, .pointer (some ⟨b1, 0, none⟩)), (2, .pointer (some ⟨b2, 0, none⟩)), (25, .slice A gs.length cap), (26, .int .i64 (gs.length : Int)), (27, .int .i64 (x.1 : Int))]) (H' := fun x => (b2, uC dir ad up dn gp (slV x.2 ((gs.take x.1).map toO).length), 24) :: (b1, oC ad up dn gp dir (.slice A gs.length cap), 53) :: slH x.2 (encO ((gs.take x.1).map toO)) 38) (fun x => gs.length - x.1) (0, none) ⟨Nat.zero_le _, startO⟩ ⟨rfl, rfl, rfl, rfl, rfl, trivial⟩ (.cons .here (.cons .here .refl)) ?_
  intro ⟨k, sv⟩ ⟨hk, hok⟩
  simp only at hk hok ⊢
  have hml : ((gs.take k).map toO).length ≤ k := by simp; omega
  refine c_seq ?_
  -- region 3
  refine c_region ?_
  refine l_val (y_bin rfl rfl rfl rfl) rfl rfl rfl ?_
  refine l_nil ?_
  refine q_then ?_
  refine c_seq ?_
  refine c_cond rfl (fun hc28 => ?_) (fun hc28 => ?_)
  · skip
    have hk2 : k < gs.length := by simpa using hc28
    obtain ⟨g, hg⟩ := some_at hk2
    obtain ⟨p, rfl, hpb, hpc⟩ := hR k g hg
    have hB2 := hB g (List.mem_of_getElem? hg)
    refine c_skip ?_
    refine q_then ?_
    refine c_seq ?_
    refine c_block ?_
    refine c_seq ?_
    -- region 4
    refine c_region ?_
    refine l_val (y_indexAddr es_45 rfl rfl hk2) rfl rfl rfl ?_
    refine l_val (y_oldLoadN (vs := GL.cells g) ld_67 rfl (by rw [block_add]; exact hpb) (by simp) rfl (fun j v hj => by rw [add_add]; exact hpc j v hj)) rfl rfl rfl ?_
    refine l_gives rfl rfl (g_alloc ze_67) rfl ?_
    intro b4 hb4
    refine l_does rfl rfl (g_storeN (vs := [_, _, _, _, _, _, _, _, _, _, _, _, _, _, _, _]) (cs' := [_, _, _, _, _, _, _, _, _, _, _, _, _, _, _, _]) sz_67 rfl rfl rfl rfl rfl rfl rfl .here) ?_
    intro _ _
    refine l_nil ?_
    refine q_then ?_
    -- region 5
    refine c_region ?_
    refine l_val (y_fieldAddr fo_24_5 rfl) rfl rfl rfl ?_
    refine l_val (y_load1 ld_22 rfl m1 rfl) rfl rfl rfl ?_
    refine l_val (y_fieldAddr fo_67_0 rfl) rfl rfl rfl ?_
    refine l_val (y_load1 ld_44 rfl m0 rfl) rfl rfl rfl ?_
    refine l_val (y_conv cv_44_3 rfl (fitB hB2.w)) rfl rfl rfl ?_
    refine l_val (y_fieldAddr fo_67_1 rfl) rfl rfl rfl ?_
    refine l_val (y_load1 ld_44 rfl m0 rfl) rfl rfl rfl ?_
    refine l_val (y_conv cv_44_3 rfl (fitB hB2.h)) rfl rfl rfl ?_
    refine l_val (y_fieldAddr fo_67_2 rfl) rfl rfl rfl ?_
    refine l_val (y_load1 ld_44 rfl m0 rfl) rfl rfl rfl ?_
    refine l_val (y_conv cv_44_3 rfl (fitB hB2.xb)) rfl rfl rfl ?_
    refine l_val (y_fieldAddr fo_67_3 rfl) rfl rfl rfl ?_
    refine l_val (y_load1 ld_44 rfl m0 rfl) rfl rfl rfl ?_
    refine l_val (y_conv cv_44_3 rfl (fitB hB2.yb)) rfl rfl rfl ?_
    refine l_val (y_fieldAddr fo_67_4 rfl) rfl rfl rfl ?_
    refine l_val (y_load1 ld_44 rfl m0 rfl) rfl rfl rfl ?_
    refine l_val (y_conv cv_44_3 rfl (fitB hB2.ad)) rfl rfl rfl ?_
    refine l_val (y_fieldAddr fo_67_7 rfl) rfl rfl rfl ?_
    refine l_val (y_load1 ld_44 rfl m0 rfl) rfl rfl rfl ?_
    refine l_val (y_conv cv_44_3 rfl (fitB hB2.xo)) rfl rfl rfl ?_
    refine l_val (y_fieldAddr fo_67_8 rfl) rfl rfl rfl ?_
    refine l_val (y_load1 ld_44 rfl m0 rfl) rfl rfl rfl ?_
    refine l_val (y_conv cv_44_3 rfl (fitB hB2.yo)) rfl rfl rfl ?_
    refine l_val (y_fieldAddr fo_67_9 rfl) rfl rfl rfl ?_
    refine l_val (y_load1 ld_3 rfl m0 rfl) rfl rfl rfl ?_
    refine l_val (y_fieldAddr fo_67_10 rfl) rfl rfl rfl ?_
    refine l_val (y_load1 ld_3 rfl m0 rfl) rfl rfl rfl ?_
    refine l_val (y_fieldAddr fo_67_11 rfl) rfl rfl rfl ?_
    refine l_val (y_load1 ld_3 rfl m0 rfl) rfl rfl rfl ?_
    refine l_val (y_build1 (out := [_, _, _, _, _, _, _, _, _, _]) bp_38 rfl rfl rfl) rfl rfl rfl ?_
    refine l_gives rfl rfl (g_buildSlice (cs := OG.cells (toO g) ++ []) sl_22 sz_38 ze_38 rfl rfl rfl rfl (by simp [Value.cells]) rfl rfl) rfl ?_
    intro b61 hb61
    refine l_gives rfl rfl (g_appendT (by_ := 80) [_, _, _, _] sl_22 inf_38 rfl rfl rfl rfl (by decide) rfl rfl hok rfl m0 rfl (OG.one _) (by unfold maxLen; omega) (by omega)) rfl ?_
    intro sv1 hok1
    rw [mapO_enc gs k g hg, mapO_len gs k g hg] at hok1
    rw [mapO_enc gs k g hg, mapO_len gs k g hg]
    refine l_val (y_fieldAddr fo_24_5 rfl) rfl rfl rfl ?_
    refine l_does rfl rfl (g_store1 (cs' := [_, _, _, _, _, _]) sz_22 rfl rfl (slV_cells _ _) rfl (slV_one _ _) rfl (.there (.there .here))) ?_
    intro _ _
    refine l_nil ?_
    refine q_block ?_
    refine q_then ?_
    -- region 6
    refine c_region ?_
    refine l_val (y_bin rfl rfl rfl (fitN (m := k + 1) (by omega) (by omega))) rfl rfl rfl ?_
    refine l_val (y_move rfl) rfl rfl rfl ?_
    refine l_nil ?_
    exact q_rnd (k + 1, sv1) ⟨hk2, hok1⟩ (by simp only; omega) ⟨rfl, rfl, rfl, rfl, rfl, trivial⟩ (.cons (.there (.there .here)) (.cons (.there (.there .here)) (.skip (.skip .refl))))
  · skip
    have hk2 : k = gs.length := by simp at hc28; omega
    subst hk2
    rw [List.take_length] at hok ⊢
    refine c_exit ?_
    refine q_then_exit ?_
    refine q_rnd_exit ?_
    refine q_block_exit ?_
    refine q_then ?_
    refine c_seq ?_
    -- region 7
    refine c_region ?_
    refine l_val (y_loadN (vs := [_, _, _, _, _, _]) ld_24 rfl m0 rfl rfl) rfl rfl rfl ?_
    refine l_does rfl rfl (g_storeN (vs := [_, _, _, _, _, _]) (cs' := [_, _, _, _, _, _]) sz_24 rfl rfl rfl rfl rfl (uC_one _ _ _ _ _ _ _) rfl .here) ?_
    intro _ _
    refine l_nil ?_
    refine q_then ?_
    refine c_ret ?_
    exact body_ret (rs := [.cell 2 24]) rfl (vs := [.agg (uC dir ad up dn gp (slV sv (gs.map toO).length)).toArray]) ⟨⟨b2, 0, _, _, rfl, m0, .inr ⟨6, _, ld_24, rfl, rfl, rfl⟩⟩, trivial⟩ (out_end sv hok rfl (.skip (.skip .refl))) _ (.inr rfl)

end Go.Proofs.Ytbepljmeflndkaa
