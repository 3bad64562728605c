/- RecomputeAdvance. -/
import Derived.Test.YtbepljmeflndkaaA
import Derived.Test.YtbepljmeflndkaaD
import Derived.Test.YtbepljmeflndkaaF
namespace Go.Proofs.Ytbepljmeflndkaa
open Go.Eng
set_option maxRecDepth 100000
attribute [local irreducible] IntKind.wrap Int.tdiv Int.tmod Int.emod sm encO encG maxLen

set_option maxHeartbeats 1000000 in
theorem f22_any (w : World) (bO : Nat) (ad up dn gp dir : Int) (sv : Sv) (gs : List GL) (hok : slOk sv gs.length 16 (encG gs)) (hlen : gs.length ≤ 1000000)
    (hw : Hp w (((bO, oC ad up dn gp dir (slV sv gs.length), 53) :: slH sv (encG gs) 67).map (·.1)) ((bO, oC ad up dn gp dir (slV sv gs.length), 53) :: slH sv (encG gs) 67) w) :
    Calls Try.prog 22 [Value.pointer (some ⟨bO, 0, none⟩)].toArray w (Out w (((bO, oC ad up dn gp dir (slV sv gs.length), 53) :: slH sv (encG gs) 67).map (·.1)) (fun _ : Unit => True) (fun _ => .tuple #[])
      (fun _ => (bO, oC (sumW gs) up dn gp dir (slV sv gs.length), 53) :: slH sv (encG gs) 67)) := by
  refine enter (n := 23) Try.func22 rfl rfl rfl hw ?_
  refine c_seq ?_
  -- region 0
  refine c_region ?_
  refine l_val (y_assign rfl) rfl rfl rfl ?_
  refine l_nil ?_
  refine q_then ?_
  refine c_seq ?_
  refine c_seq ?_
  -- region 1
  refine c_region ?_
  refine l_val (y_move rfl) rfl rfl rfl ?_
  refine l_val (y_nilCheck rfl) rfl rfl rfl ?_
  refine l_val (y_fieldAddr fo_53_2 rfl) rfl rfl rfl ?_
  refine l_val (y_load1 ld_45 rfl m0 rfl) rfl rfl rfl ?_
  refine l_val (y_lenSv sl_45 rfl hok.nil) rfl rfl rfl ?_
  refine l_val (y_move rfl) rfl rfl rfl ?_
  refine l_nil ?_
  refine q_then ?_
  refine c_block ?_
  refine c_loop (ι := Nat) (φ := fun k => k ≤ gs.length) (L' := fun k => [(0, .pointer (some ⟨bO, 0, none⟩)), (2, .int .i32 (sumW (gs.take k))), (8, slV sv gs.length), (9, .int .i64 (gs.length : Int)), (10, .int .i64 (k : Int))]) (H' := fun _ => (bO, oC ad up dn gp dir (slV sv gs.length), 53) :: slH sv (encG gs) 67) (fun k => gs.length - k) 0 (Nat.zero_le _) ⟨rfl, rfl, rfl, rfl, rfl, trivial⟩ (.cons .here .refl) ?_
  intro k hk
  refine c_seq ?_
  -- region 2
  refine c_region ?_
  refine l_val (y_bin rfl rfl rfl rfl) rfl rfl rfl ?_
  refine l_nil ?_
  refine q_then ?_
  refine c_seq ?_
  refine c_cond rfl (fun hc11 => ?_) (fun hc11 => ?_)
  · skip
    obtain ⟨g, hg⟩ := some_at (l := gs) (k := k) (by simpa using hc11)
    have hk2 : k < gs.length := by simpa using hc11
    obtain _ | ⟨bG, sp, cap⟩ := sv
    · exact absurd hok.2 (by simp only; omega)
    refine c_skip ?_
    refine q_then ?_
    refine c_seq ?_
    refine c_block ?_
    refine c_seq ?_
    -- region 3
    refine c_region ?_
    refine l_val (y_indexAddrOwn es_45 rfl rfl hk2) rfl rfl rfl ?_
    refine l_val (y_loadN ld_67 rfl m1 (encG_at hg) rfl) rfl rfl rfl ?_
    refine l_gives rfl rfl (g_alloc ze_67) rfl ?_
    intro b4 hb4
    refine l_does rfl rfl (g_storeN (vs := [_, _, _, _, _, _, _, _, _, _, _, _, _, _, _, _]) (cs' := [_, _, _, _, _, _, _, _, _, _, _, _, _, _, _, _]) sz_67 rfl rfl rfl rfl rfl rfl rfl .here) ?_
    intro _ _
    refine l_nil ?_
    refine q_then ?_
    -- region 4
    refine c_region ?_
    refine l_val (y_move rfl) rfl rfl rfl ?_
    refine l_val (y_fieldAddr fo_67_4 rfl) rfl rfl rfl ?_
    refine l_val (y_load1 ld_44 rfl m0 rfl) rfl rfl rfl ?_
    refine l_val (y_bin rfl rfl rfl (sumW_step hg)) rfl rfl rfl ?_
    refine l_val (y_assign rfl) rfl rfl rfl ?_
    refine l_nil ?_
    refine q_block ?_
    refine q_then ?_
    -- region 5
    refine c_region ?_
    refine l_val (y_bin rfl rfl rfl (fitN (m := k + 1) (by omega) (by omega))) rfl rfl rfl ?_
    refine l_val (y_move rfl) rfl rfl rfl ?_
    refine l_nil ?_
    exact q_rnd (k + 1) hk2 (by omega) ⟨rfl, rfl, rfl, rfl, rfl, trivial⟩ (.cons (.there .here) (.cons (.there .here) .nil))
  · skip
    have hk2 : k = gs.length := by simp at hc11; omega
    subst hk2
    rw [List.take_length]
    refine c_exit ?_
    refine q_then_exit ?_
    refine q_rnd_exit ?_
    refine q_block_exit ?_
    refine q_then ?_
    -- region 6
    refine c_region ?_
    refine l_val (y_move rfl) rfl rfl rfl ?_
    refine l_val (y_move rfl) rfl rfl rfl ?_
    refine l_val (y_nilCheck rfl) rfl rfl rfl ?_
    refine l_val (y_fieldAddr fo_53_0 rfl) rfl rfl rfl ?_
    refine l_does rfl rfl (g_store1 sz_44 rfl rfl rfl rfl rfl rfl .here) ?_
    intro _ _
    refine l_nil ?_
    exact body_ret (rs := []) rfl (vs := []) trivial (out_end () trivial rfl (.cons .here .refl)) _ (.inl rfl)

end Go.Proofs.Ytbepljmeflndkaa
