/- Recalculated, RecomputedAdvance. -/
import Derived.Test.YtbepljmeflndkaaB
import Derived.Test.YtbepljmeflndkaaH
import Derived.Test.YtbepljmeflndkaaI
namespace Go.Proofs.Ytbepljmeflndkaa
open Go.Eng
set_option maxRecDepth 100000
attribute [local irreducible] IntKind.wrap Int.tdiv Int.tmod Int.emod sm encO encG maxLen

set_option maxHeartbeats 2000000 in
theorem f7_any (w : World) (A : Option Addr) (cap : Nat) (gs : List OG) (dir ad up dn gp : Int) (gv : Value) (hgv : gv = .slice A gs.length cap) (hcap : gs.length ≤ cap) (hR : RdO w A gs) (hlen : gs.length ≤ 1000)
    (hdir : 0 ≤ dir ∧ dir ≤ 3) (had : inG ad) (hup : inG up) (hdn : inG dn) (hgp : inG gp) (hB : ∀ g ∈ gs, OB g) (hpos : ∀ g ∈ gs, 0 ≤ g.cl ∧ 0 ≤ g.ru) (hcl0 : ∃ bs : List (List OG), gs = bs.flatten ∧ ∀ b ∈ bs, Blk1 b) :
    Calls Try.prog 7 [Value.agg (uC dir ad up dn gp gv).toArray].toArray w (Out w [] (fun sv : Sv => slOk sv gs.length 10 (encO gs))
      (fun sv => .agg (uC dir (sumW (gs.map (ofO (decide (2 ≤ dir))))) (upW (decide (2 ≤ dir)) (gs.map (ofO (decide (2 ≤ dir))))) (dnW (decide (2 ≤ dir)) (gs.map (ofO (decide (2 ≤ dir))))) 0 (slV sv gs.length)).toArray) (fun sv => slH sv (encO gs) 38)) := by
  refine enter (n := 16) Try.func7 rfl rfl rfl (Hp.refl w) ?_
  refine c_seq ?_
  -- region 0
  refine c_region ?_
  refine l_gives rfl rfl (g_box (vs := [_, _, _, _, _, _]) rfl rfl) rfl ?_
  intro b1 hb1
  refine l_gives rfl rfl (g_alloc ze_24) rfl ?_
  intro b2 hb2
  refine l_nil ?_
  refine q_then ?_
  refine c_seq ?_
  -- region 1
  refine c_region ?_
  refine l_val (y_loadN (vs := [_, _, _, _, _, _]) ld_24 rfl m1 rfl rfl) rfl rfl rfl ?_
  refine l_call ok_19 rfl rfl (out_new (fun w1 hw1 => f19_any w1 A cap gs dir ad up dn gp gv hgv hcap (hR.keep hw1) hlen hdir had hup hdn hgp hB hpos hcl0)) ?_
  intro sv hok
  refine l_val (y_move rfl) rfl rfl rfl ?_
  refine l_val (y_extract rfl rfl) rfl rfl rfl ?_
  refine l_val (y_extract rfl rfl) rfl rfl rfl ?_
  refine l_gives rfl rfl (g_alloc ze_53) rfl ?_
  intro b3 hb3
  refine l_does rfl rfl (g_storeN (vs := [_, _, _, _, _, _, _, _, _, _, _, _, _, _]) (cs' := [_, _, _, _, _, _, _, _, _, _, _, _, _, _]) sz_53 rfl rfl rfl rfl rfl (oC_one _ _ _ _ _ _ _) rfl .here) ?_
  intro _ _
  refine l_val (y_assign rfl) rfl rfl rfl ?_
  refine l_nil ?_
  refine q_then ?_
  refine c_seq ?_
  refine c_seq ?_
  -- region 2
  refine c_region ?_
  refine l_val (y_move rfl) rfl rfl rfl ?_
  refine l_val (y_not rfl) rfl rfl rfl ?_
  refine l_nil ?_
  refine q_then ?_
  refine c_false rfl rfl ?_
  refine c_skip ?_
  refine q_then ?_
  refine c_seq ?_
  -- region 4
  refine c_region ?_
  refine l_call ok_20 rfl rfl (out_callT [_, _] rfl (fun w1 hw1 => f20_any w1 b3 ad up dn gp dir (decide (2 ≤ dir)) hdir rfl sv (gs.map (ofO (decide (2 ≤ dir)))) hok (by simp; omega) hw1)) ?_
  intro _ _
  refine l_nil ?_
  refine q_then ?_
  refine c_seq ?_
  -- region 5
  refine c_region ?_
  refine l_val (y_loadN (vs := [_, _, _, _, _, _, _, _, _, _, _, _, _, _]) ld_53 rfl m0 rfl rfl) rfl rfl rfl ?_
  refine l_call ok_21 rfl rfl (out_new (fun w1 hw1 => f21_any w1 (svA sv) (svC sv) (gs.map (ofO (decide (2 ≤ dir)))) (sumW (gs.map (ofO (decide (2 ≤ dir))))) (upW (decide (2 ≤ dir)) (gs.map (ofO (decide (2 ≤ dir))))) (dnW (decide (2 ≤ dir)) (gs.map (ofO (decide (2 ≤ dir))))) 0 dir _ (slV_eq hok) (RdG_sv hw1 (.skip (.skip (.skip .refl))) hok) (ofO_B _ _ hB) (by simp; omega) (sumW_b _) (upW_b _ _) (dnW_b _ _) b32_zero hdir)) ?_
  intro sv2 hok2
  rw [toO_ofO] at hok2 ⊢
  refine l_sub (L' := [(2, .pointer (some ⟨b2, 0, none⟩)), (15, .agg (uC dir (sumW (gs.map (ofO (decide (2 ≤ dir))))) (upW (decide (2 ≤ dir)) (gs.map (ofO (decide (2 ≤ dir))))) (dnW (decide (2 ≤ dir)) (gs.map (ofO (decide (2 ≤ dir))))) 0 (slV sv2 gs.length)).toArray)]) (H' := (b2, [.int .i64 0, .int .i64 0, .int .i64 0, .int .i64 0, .int .i64 0, .slice none 0 0], 24) :: slH sv2 (encO gs) 38) ⟨rfl, rfl, trivial⟩ (.cons (.there .here) (.skip (.skip .right))) ?_
  refine l_does rfl rfl (g_storeN (vs := [_, _, _, _, _, _]) (cs' := [_, _, _, _, _, _]) sz_24 rfl rfl rfl rfl rfl (uC_one _ _ _ _ _ _ _) rfl .here) ?_
  intro _ _
  refine l_nil ?_
  refine q_then ?_
  refine c_ret ?_
  exact body_ret (rs := [.cell 2 24]) rfl (vs := [.agg (uC dir (sumW (gs.map (ofO (decide (2 ≤ dir))))) (upW (decide (2 ≤ dir)) (gs.map (ofO (decide (2 ≤ dir))))) (dnW (decide (2 ≤ dir)) (gs.map (ofO (decide (2 ≤ dir))))) 0 (slV sv2 gs.length)).toArray]) ⟨⟨b2, 0, _, _, rfl, m0, .inr ⟨6, _, ld_24, rfl, rfl, rfl⟩⟩, trivial⟩ (out_end sv2 hok2 rfl (.skip .refl)) _ (.inr rfl)

set_option maxHeartbeats 2000000 in
theorem f9_any (w : World) (A : Option Addr) (cap : Nat) (gs : List OG) (dir ad up dn gp : Int) (gv : Value) (hgv : gv = .slice A gs.length cap) (hcap : gs.length ≤ cap) (hR : RdO w A gs) (hlen : gs.length ≤ 1000)
    (hdir : 0 ≤ dir ∧ dir ≤ 3) (had : inG ad) (hup : inG up) (hdn : inG dn) (hgp : inG gp) (hB : ∀ g ∈ gs, OB g) (hpos : ∀ g ∈ gs, 0 ≤ g.cl ∧ 0 ≤ g.ru) (hcl0 : ∃ bs : List (List OG), gs = bs.flatten ∧ ∀ b ∈ bs, Blk1 b) :
    Calls Try.prog 9 [Value.agg (uC dir ad up dn gp gv).toArray].toArray w (Out w [] (fun sv : Sv => slOk sv gs.length 10 (encO gs))
      (fun sv => .agg (uC dir (sumW (gs.map (ofO (decide (2 ≤ dir))))) up dn gp (slV sv gs.length)).toArray) (fun sv => slH sv (encO gs) 38)) := by
  refine enter (n := 16) Try.func9 rfl rfl rfl (Hp.refl w) ?_
  refine c_seq ?_
  -- region 0
  refine c_region ?_
  refine l_gives rfl rfl (g_box (vs := [_, _, _, _, _, _]) rfl rfl) rfl ?_
  intro b1 hb1
  refine l_gives rfl rfl (g_alloc ze_24) rfl ?_
  intro b2 hb2
  refine l_nil ?_
  refine q_then ?_
  refine c_seq ?_
  -- region 1
  refine c_region ?_
  refine l_val (y_loadN (vs := [_, _, _, _, _, _]) ld_24 rfl m1 rfl rfl) rfl rfl rfl ?_
  refine l_call ok_19 rfl rfl (out_new (fun w1 hw1 => f19_any w1 A cap gs dir ad up dn gp gv hgv hcap (hR.keep hw1) hlen hdir had hup hdn hgp hB hpos hcl0)) ?_
  intro sv hok
  refine l_val (y_move rfl) rfl rfl rfl ?_
  refine l_val (y_extract rfl rfl) rfl rfl rfl ?_
  refine l_val (y_extract rfl rfl) rfl rfl rfl ?_
  refine l_gives rfl rfl (g_alloc ze_53) rfl ?_
  intro b3 hb3
  refine l_does rfl rfl (g_storeN (vs := [_, _, _, _, _, _, _, _, _, _, _, _, _, _]) (cs' := [_, _, _, _, _, _, _, _, _, _, _, _, _, _]) sz_53 rfl rfl rfl rfl rfl (oC_one _ _ _ _ _ _ _) rfl .here) ?_
  intro _ _
  refine l_val (y_assign rfl) rfl rfl rfl ?_
  refine l_nil ?_
  refine q_then ?_
  refine c_seq ?_
  refine c_seq ?_
  -- region 2
  refine c_region ?_
  refine l_val (y_move rfl) rfl rfl rfl ?_
  refine l_val (y_not rfl) rfl rfl rfl ?_
  refine l_nil ?_
  refine q_then ?_
  refine c_false rfl rfl ?_
  refine c_skip ?_
  refine q_then ?_
  refine c_seq ?_
  -- region 4
  refine c_region ?_
  refine l_call ok_22 rfl rfl (out_callT [_, _] rfl (fun w1 hw1 => f22_any w1 b3 ad up dn gp dir sv (gs.map (ofO (decide (2 ≤ dir)))) hok (by simp; omega) hw1)) ?_
  intro _ _
  refine l_nil ?_
  refine q_then ?_
  refine c_seq ?_
  -- region 5
  refine c_region ?_
  refine l_val (y_loadN (vs := [_, _, _, _, _, _, _, _, _, _, _, _, _, _]) ld_53 rfl m0 rfl rfl) rfl rfl rfl ?_
  refine l_call ok_21 rfl rfl (out_new (fun w1 hw1 => f21_any w1 (svA sv) (svC sv) (gs.map (ofO (decide (2 ≤ dir)))) (sumW (gs.map (ofO (decide (2 ≤ dir))))) up dn gp dir _ (slV_eq hok) (RdG_sv hw1 (.skip (.skip (.skip .refl))) hok) (ofO_B _ _ hB) (by simp; omega) (sumW_b _) (by unfold inG at hup; unfold b32; omega) (by unfold inG at hdn; unfold b32; omega) (by unfold inG at hgp; unfold b32; omega) hdir)) ?_
  intro sv2 hok2
  rw [toO_ofO] at hok2 ⊢
  refine l_sub (L' := [(2, .pointer (some ⟨b2, 0, none⟩)), (15, .agg (uC dir (sumW (gs.map (ofO (decide (2 ≤ dir))))) up dn gp (slV sv2 gs.length)).toArray)]) (H' := (b2, [.int .i64 0, .int .i64 0, .int .i64 0, .int .i64 0, .int .i64 0, .slice none 0 0], 24) :: slH sv2 (encO gs) 38) ⟨rfl, rfl, trivial⟩ (.cons (.there .here) (.skip (.skip .right))) ?_
  refine l_does rfl rfl (g_storeN (vs := [_, _, _, _, _, _]) (cs' := [_, _, _, _, _, _]) sz_24 rfl rfl rfl rfl rfl (uC_one _ _ _ _ _ _ _) rfl .here) ?_
  intro _ _
  refine l_nil ?_
  refine q_then ?_
  refine c_ret ?_
  exact body_ret (rs := [.cell 2 24]) rfl (vs := [.agg (uC dir (sumW (gs.map (ofO (decide (2 ≤ dir))))) up dn gp (slV sv2 gs.length)).toArray]) ⟨⟨b2, 0, _, _, rfl, m0, .inr ⟨6, _, ld_24, rfl, rfl, rfl⟩⟩, trivial⟩ (out_end sv2 hok2 rfl (.skip .refl)) _ (.inr rfl)

end Go.Proofs.Ytbepljmeflndkaa
