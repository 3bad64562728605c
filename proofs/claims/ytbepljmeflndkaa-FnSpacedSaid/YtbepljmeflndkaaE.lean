/- The reference: AdvanceRef. -/
import Derived.Test.YtbepljmeflndkaaA
import Derived.Test.YtbepljmeflndkaaD
import Derived.Test.YtbepljmeflndkaaF
namespace Go.Proofs.Ytbepljmeflndkaa
open Go.Eng
set_option maxRecDepth 100000
attribute [local irreducible] IntKind.wrap Int.tdiv Int.tmod Int.emod sm encO encG maxLen

set_option maxHeartbeats 1000000 in
theorem f23_any (w : World) (A : Option Addr) (cap : Nat) (gs : List OG) (dir ad up dn gp : Int) (gv : Value) (hgv : gv = .slice A gs.length cap) (hR : RdO w A gs) (hlen : gs.length ≤ 1000) :
    Calls Try.prog 23 [Value.agg (uC dir ad up dn gp gv).toArray].toArray w (Out w [] (fun sv : Sv => slOk sv gs.length 10 (encO gs)) (fun sv => .agg (uC dir ad up dn gp (slV sv gs.length)).toArray) (fun sv => slH sv (encO gs) 38)) := by
  subst hgv
  refine enter (n := 9) Try.func23 rfl rfl rfl (Hp.refl w) ?_
  refine c_seq ?_
  -- region 0
  refine c_region ?_
  refine l_gives rfl rfl (g_box (vs := [_, _, _, _, _, _]) rfl rfl) rfl ?_
  intro b1 hb1
  refine l_gives rfl rfl (g_alloc ze_24) rfl ?_
  intro b2 hb2
  refine l_nil ?_
  refine q_then ?_
  refine c_seq ?_
  -- region 1
  refine c_region ?_
  refine l_gives rfl rfl (g_buildSlice (cs := []) sl_22 sz_38 ze_38 rfl rfl rfl rfl (by simp) rfl rfl) rfl ?_
  intro b3 hb3
  refine l_val (y_fieldAddr fo_24_5 rfl) rfl rfl rfl ?_
  refine l_val (y_load1 ld_22 rfl m2 rfl) rfl rfl rfl ?_
  refine l_gives rfl rfl (g_appendR (by_ := 80) (sv := some (b3, [], 0)) (m := 0) (xs := []) (news := encO gs) [_, _] sl_22 inf_38 rfl rfl rfl rfl (by decide) rfl rfl ⟨rfl, Nat.le_refl _, Nat.zero_le _, rfl⟩ (.cons (.there .here) (.cons (.there .here) .nil)) hR.all (lenO gs) (encO_one gs) (by unfold maxLen; omega) (by omega)) rfl ?_
  intro sv hok
  rw [Nat.zero_add, List.nil_append] at hok ⊢
  try rw [Nat.zero_add]
  refine l_val (y_fieldAddr fo_24_5 rfl) rfl rfl rfl ?_
  refine l_does rfl rfl (g_store1 (cs' := [_, _, _, _, _, _]) sz_22 rfl rfl (slV_cells _ _) rfl (slV_one _ _) rfl (.there .here)) ?_
  intro _ _
  refine l_nil ?_
  refine q_then ?_
  refine c_seq ?_
  -- region 2
  refine c_region ?_
  refine l_val (y_loadN (vs := [_, _, _, _, _, _]) ld_24 rfl m1 rfl rfl) rfl rfl rfl ?_
  refine l_does rfl rfl (g_storeN (vs := [_, _, _, _, _, _]) (cs' := [_, _, _, _, _, _]) sz_24 rfl rfl rfl rfl rfl (uC_one _ _ _ _ _ _ _) rfl .here) ?_
  intro _ _
  refine l_nil ?_
  refine q_then ?_
  refine c_ret ?_
  exact body_ret (rs := [.cell 2 24]) rfl (vs := [.agg (uC dir ad up dn gp (slV sv gs.length)).toArray]) ⟨⟨b2, 0, _, _, rfl, m0, .inr ⟨6, _, ld_24, rfl, rfl, rfl⟩⟩, trivial⟩ (out_end sv hok rfl (.skip (.skip .refl))) _ (.inr rfl)

set_option maxHeartbeats 1000000 in
theorem f10_any (w : World) (A : Option Addr) (cap : Nat) (gs : List OG) (dir ad up dn gp : Int) (gv : Value) (hgv : gv = .slice A gs.length cap) (hR : RdO w A gs) (hlen : gs.length ≤ 1000) :
    Calls Try.prog 10 [Value.agg (uC dir ad up dn gp gv).toArray].toArray w (Out w [] (fun sv : Sv => slOk sv gs.length 10 (encO gs)) (fun sv => .agg (uC dir (sumI gs) up dn gp (slV sv gs.length)).toArray) (fun sv => slH sv (encO gs) 38)) := by
  refine enter (n := 23) Try.func10 rfl rfl rfl (Hp.refl w) ?_
  refine c_seq ?_
  -- region 0
  refine c_region ?_
  refine l_gives rfl rfl (g_box (vs := [_, _, _, _, _, _]) rfl rfl) rfl ?_
  intro b1 hb1
  refine l_gives rfl rfl (g_alloc ze_24) rfl ?_
  intro b2 hb2
  refine l_nil ?_
  refine q_then ?_
  refine c_seq ?_
  -- region 1
  refine c_region ?_
  refine l_val (y_loadN (vs := [_, _, _, _, _, _]) ld_24 rfl m1 rfl rfl) rfl rfl rfl ?_
  refine l_call ok_23 rfl rfl (out_new (fun w1 hw1 => f23_any w1 A cap gs dir ad up dn gp gv hgv (hR.keep hw1) hlen)) ?_
  intro sv hok
  refine l_does rfl rfl (g_storeN (vs := [_, _, _, _, _, _]) (cs' := [_, _, _, _, _, _]) sz_24 rfl rfl rfl rfl rfl (uC_one _ _ _ _ _ _ _) rfl (.there .here)) ?_
  intro _ _
  refine l_nil ?_
  refine q_then ?_
  refine c_seq ?_
  -- region 2
  refine c_region ?_
  refine l_val (y_fieldAddr fo_24_1 rfl) rfl rfl rfl ?_
  refine l_does rfl rfl (g_store1 (cs' := [_, _, _, _, _, _]) sz_3 rfl rfl rfl rfl rfl rfl (.there .here)) ?_
  intro _ _
  refine l_nil ?_
  refine q_then ?_
  refine c_seq ?_
  refine c_seq ?_
  -- region 3
  refine c_region ?_
  refine l_val (y_fieldAddr fo_24_5 rfl) rfl rfl rfl ?_
  refine l_val (y_load1 ld_22 rfl m1 rfl) rfl rfl rfl ?_
  refine l_val (y_lenSv sl_22 rfl hok.nil) rfl rfl rfl ?_
  refine l_val (y_move rfl) rfl rfl rfl ?_
  refine l_nil ?_
  refine q_then ?_
  refine c_block ?_
  refine c_loop (ι := Nat) (φ := fun k => k ≤ gs.length) (L' := fun k => [(1, .pointer (some ⟨b1, 0, none⟩)), (2, .pointer (some ⟨b2, 0, none⟩)), (9, slV sv gs.length), (10, .int .i64 (gs.length : Int)), (11, .int .i64 (k : Int))]) (H' := fun k => (b1, uC dir (sumI (gs.take k)) up dn gp (slV sv gs.length), 24) :: (b2, uC 0 0 0 0 0 (.slice none 0 0), 24) :: slH sv (encO gs) 38) (fun k => gs.length - k) 0 (Nat.zero_le _) ⟨rfl, rfl, rfl, rfl, rfl, trivial⟩ (.cons (.there .here) (.cons .here .refl)) ?_
  intro k hk
  refine c_seq ?_
  -- region 4
  refine c_region ?_
  refine l_val (y_bin rfl rfl rfl rfl) rfl rfl rfl ?_
  refine l_nil ?_
  refine q_then ?_
  refine c_seq ?_
  refine c_cond rfl (fun hc12 => ?_) (fun hc12 => ?_)
  · skip
    obtain ⟨g, hg⟩ := some_at (l := gs) (k := k) (by simpa using hc12)
    have hk2 : k < gs.length := by simpa using hc12
    obtain _ | ⟨bG, sp, cap1⟩ := sv
    · exact absurd hok.2 (by simp only; omega)
    refine c_skip ?_
    refine q_then ?_
    refine c_seq ?_
    refine c_block ?_
    refine c_seq ?_
    -- region 5
    refine c_region ?_
    refine l_val (y_indexAddrOwn es_22 rfl rfl hk2) rfl rfl rfl ?_
    refine l_val (y_loadN (vs := OG.cells g) ld_38 rfl m2 (encO_at hg) rfl) rfl rfl rfl ?_
    refine l_gives rfl rfl (g_alloc ze_38) rfl ?_
    intro b4 hb4
    refine l_does rfl rfl (g_storeN (vs := [_, _, _, _, _, _, _, _, _, _]) (cs' := [_, _, _, _, _, _, _, _, _, _]) sz_38 rfl rfl rfl rfl rfl rfl rfl .here) ?_
    intro _ _
    refine l_nil ?_
    refine q_then ?_
    -- region 6
    refine c_region ?_
    refine l_val (y_fieldAddr fo_24_1 rfl) rfl rfl rfl ?_
    refine l_val (y_load1 ld_3 rfl m1 rfl) rfl rfl rfl ?_
    refine l_val (y_fieldAddr fo_38_4 rfl) rfl rfl rfl ?_
    refine l_val (y_load1 ld_3 rfl m0 rfl) rfl rfl rfl ?_
    refine l_val (y_bin rfl rfl rfl (sumI_step hg)) rfl rfl rfl ?_
    refine l_val (y_fieldAddr fo_24_1 rfl) rfl rfl rfl ?_
    refine l_does rfl rfl (g_store1 (cs' := [_, _, _, _, _, _]) sz_3 rfl rfl rfl rfl rfl rfl (.there .here)) ?_
    intro _ _
    refine l_nil ?_
    refine q_block ?_
    refine q_then ?_
    -- region 7
    refine c_region ?_
    refine l_val (y_bin rfl rfl rfl (fitN (m := k + 1) (by omega) (by omega))) rfl rfl rfl ?_
    refine l_val (y_move rfl) rfl rfl rfl ?_
    refine l_nil ?_
    exact q_rnd (k + 1) hk2 (by omega) ⟨rfl, rfl, rfl, rfl, rfl, trivial⟩ (.cons (.there .here) (.cons (.there .here) (.cons (.there .here) .nil)))
  · skip
    have hk2 : k = gs.length := by simp at hc12; omega
    subst hk2
    rw [List.take_length]
    refine c_exit ?_
    refine q_then_exit ?_
    refine q_rnd_exit ?_
    refine q_block_exit ?_
    refine q_then ?_
    refine c_seq ?_
    -- region 8
    refine c_region ?_
    refine l_val (y_loadN (vs := [_, _, _, _, _, _]) ld_24 rfl m0 rfl rfl) rfl rfl rfl ?_
    refine l_does rfl rfl (g_storeN (vs := [_, _, _, _, _, _]) (cs' := [_, _, _, _, _, _]) sz_24 rfl rfl rfl rfl rfl (uC_one _ _ _ _ _ _ _) rfl (.there .here)) ?_
    intro _ _
    refine l_nil ?_
    refine q_then ?_
    refine c_ret ?_
    exact body_ret (rs := [.cell 2 24]) rfl (vs := [.agg (uC dir (sumI gs) up dn gp (slV sv gs.length)).toArray]) ⟨⟨b2, 0, _, _, rfl, m1, .inr ⟨6, _, ld_24, rfl, rfl, rfl⟩⟩, trivial⟩ (out_end sv hok rfl (.skip (.skip .refl))) _ (.inr rfl)

end Go.Proofs.Ytbepljmeflndkaa
