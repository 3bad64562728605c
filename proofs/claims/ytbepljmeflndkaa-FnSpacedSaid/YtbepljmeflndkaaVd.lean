/- WordSpaced, LetterSpaced. -/
import Derived.Test.YtbepljmeflndkaaZ
import Derived.Test.YtbepljmeflndkaaVc
namespace Go.Proofs.Ytbepljmeflndkaa
open Go.Eng
set_option maxRecDepth 100000
attribute [local irreducible] IntKind.wrap Int.tdiv Int.tmod Int.emod sm encO encG maxLen sepr

theorem gb_b {x : Int} (h : inG x) : b32 x := by unfold inG at h; unfold b32; omega
set_option maxHeartbeats 4000000 in
theorem f16_any (w : World) (A0 : Option Addr) (cap0 : Nat) (gs : List OG) (dir ad up dn gp s : Int) (A : Option Addr) (cap : Nat) (ts : List Int) (hT : RdT w [] A ts) (hcap : gs.length ≤ cap0) (hRO : RdO w A0 gs) (hlen : gs.length ≤ 36) (hdir : 0 ≤ dir ∧ dir ≤ 3) (had : inG ad) (hup : inG up) (hdn : inG dn) (hgp : inG gp)
    (hB : ∀ g ∈ gs, OB g) (hpos : ∀ g ∈ gs, (0 ≤ g.cl ∧ g.cl < ts.length) ∧ 0 ≤ g.ru) (hcl : ∃ bs : List (List OG), gs = bs.flatten ∧ ∀ b ∈ bs, Blk1 b) (hs : -1048576 ≤ s ∧ s ≤ 1048576) :
    Calls Try.prog 16 [Value.agg (uC dir ad up dn gp (.slice A0 gs.length cap0)).toArray, .slice A ts.length cap, .int .i64 s].toArray w (Out w [] (fun x : List GL × Sv => x.1 = ((gs.map (ofO (decide (2 ≤ dir)))).map (wG (decide (2 ≤ dir)) ts s (IntKind.i32.wrap (s.tdiv 2)))))
      (fun x => .agg (uC dir (sumW x.1) up dn gp (slV x.2 (x.1.map toO).length)).toArray) (fun x => slH x.2 (encO (x.1.map toO)) 38)) := by
  have hC : ∀ g ∈ (gs.map (ofO (decide (2 ≤ dir)))), 0 ≤ g.cl ∧ g.cl < ts.length := by
    intro g hg
    obtain ⟨y, hy, rfl⟩ := List.mem_map.1 hg
    exact (hpos y hy).1
  refine enter (n := 35) Try.func16 rfl rfl rfl (Hp.refl w) ?_
  refine c_seq ?_
  -- region 0
  refine c_region ?_
  refine l_gives rfl rfl (g_box (vs := [_, _, _, _, _, _]) rfl rfl) rfl ?_
  intro b3 hb3
  refine l_gives rfl rfl (g_alloc ze_24) rfl ?_
  intro b6 hb6
  refine l_nil ?_
  refine q_then ?_
  refine c_seq ?_
  -- region 1
  refine c_region ?_
  refine l_val (y_loadN (vs := [_, _, _, _, _, _]) ld_24 rfl m1 rfl rfl) rfl rfl rfl ?_
  refine l_call ok_19 rfl rfl (out_new (fun w1 hw1 => f19_any w1 A0 cap0 gs dir ad up dn gp _ rfl hcap (hRO.keep hw1) (by omega) hdir had hup hdn hgp hB (fun g hg => ⟨(hpos g hg).1.1, (hpos g hg).2⟩) hcl)) ?_
  intro sv hok
  refine l_val (y_move rfl) rfl rfl rfl ?_
  refine l_val (y_extract rfl rfl) rfl rfl rfl ?_
  refine l_val (y_extract rfl rfl) rfl rfl rfl ?_
  refine l_gives rfl rfl (g_alloc ze_53) rfl ?_
  intro b7 hb7
  refine l_does rfl rfl (g_storeN (vs := [_, _, _, _, _, _, _, _, _, _, _, _, _, _]) (cs' := [_, _, _, _, _, _, _, _, _, _, _, _, _, _]) sz_53 rfl rfl rfl rfl rfl (oC_one _ _ _ _ _ _ _) rfl .here) ?_
  intro _ _
  refine l_val (y_assign rfl) rfl rfl rfl ?_
  refine l_nil ?_
  refine q_then ?_
  refine c_seq ?_
  refine c_seq ?_
  -- region 2
  refine c_region ?_
  refine l_val (y_move rfl) rfl rfl rfl ?_
  refine l_val (y_not rfl) rfl rfl rfl ?_
  refine l_val (y_move rfl) rfl rfl rfl ?_
  refine l_want rfl rfl ?_
  refine l_val (y_loadN (vs := [_, _, _, _, _, _]) ld_24 rfl m2 rfl rfl) rfl rfl rfl ?_
  refine l_want rfl rfl ?_
  refine l_val (y_move rfl) rfl rfl rfl ?_
  refine l_want rfl rfl ?_
  refine l_val (y_len sl_29 rfl) rfl rfl rfl ?_
  refine l_want rfl rfl ?_
  refine l_call ok_24 rfl rfl (fun w1 hw1 => out_plain hw1 (f24_any w1 A0 cap0 gs dir ad up dn gp ts.length _ rfl (hRO.keep hw1) (by omega) (fun g hg => (hpos g hg).1.2))) ?_
  intro _ _
  refine l_want rfl rfl ?_
  refine l_val (y_not rfl) rfl rfl rfl ?_
  refine l_val (y_pick rfl rfl rfl) rfl rfl rfl ?_
  refine l_val (y_move rfl) rfl rfl rfl ?_
  refine l_want rfl rfl ?_
  refine l_val (y_move rfl) rfl rfl rfl ?_
  refine l_want rfl rfl ?_
  refine l_call ok_25 rfl rfl (out_calm (fun w1 => f25_any s hs w1)) ?_
  intro _ _
  refine l_want rfl rfl ?_
  refine l_val (y_not rfl) rfl rfl rfl ?_
  refine l_val (y_pick rfl rfl rfl) rfl rfl rfl ?_
  refine l_nil ?_
  refine q_then ?_
  refine c_false rfl rfl ?_
  refine c_skip ?_
  refine q_then ?_
  refine c_seq ?_
  -- region 4
  refine c_region ?_
  refine l_val (y_move rfl) rfl rfl rfl ?_
  refine l_val (y_move rfl) rfl rfl rfl ?_
  refine l_val (y_conv cv_3_44 rfl (fit32 (by omega) (by omega))) rfl rfl rfl ?_
  refine l_perm (.cons _ (List.perm_append_comm (l₁ := [_, _]))) ?_
  refine l_call ok_29 rfl rfl (out_head (H1 := (b7, oC ad up dn gp dir (slV sv (gs.map (ofO (decide (2 ≤ dir)))).length), 53) :: slH sv (encG (gs.map (ofO (decide (2 ≤ dir))))) 67) (R := [_, _]) (fun w1 ha hb => f29_any w1 b7 0 cap (fun ad => oC ad up dn gp dir (slV sv (gs.map (ofO (decide (2 ≤ dir)))).length)) ad up dn gp dir s A ts hdir sv (gs.map (ofO (decide (2 ≤ dir)))) hok (by rw [List.length_map]; omega) (Mid.self up dn gp dir _) hC (hT.into ha) hb)) ?_
  intro _ _
  refine l_perm (.cons _ (List.perm_append_comm (l₂ := [_, _]))) ?_
  obtain ⟨X, hX⟩ : ∃ X, X = ((gs.map (ofO (decide (2 ≤ dir)))).map (wG (decide (2 ≤ dir)) ts s (IntKind.i32.wrap (s.tdiv 2)))) := ⟨_, rfl⟩
  rw [← hX]
  have hXl : X.length = (gs.map (ofO (decide (2 ≤ dir)))).length := by rw [hX]; exact List.length_map _
  have hokX := slOk_G hok hXl
  have hXB : ∀ g ∈ X, GB g := by rw [hX]; exact fun g hg => by obtain ⟨y, hy, rfl⟩ := List.mem_map.1 hg; exact wG_B _ _ _ _ _ (ofO_B _ _ hB y hy)
  rw [← hXl] at hokX ⊢
  refine l_nil ?_
  refine q_then ?_
  refine c_seq ?_
  -- region 5
  refine c_region ?_
  refine l_val (y_loadN (vs := [_, _, _, _, _, _, _, _, _, _, _, _, _, _]) ld_53 rfl m0 rfl rfl) rfl rfl rfl ?_
  refine l_call ok_21 rfl rfl (out_new (fun w1 hw1 => f21_any w1 (svA sv) (svC sv) X (sumW X) up dn gp dir _ (slV_eq hokX) (RdG_sv hw1 (.skip (.skip (.skip .refl))) hokX) hXB (by rw [hXl, List.length_map]; omega) (sumW_b _) (gb_b hup) (gb_b hdn) (gb_b hgp) hdir)) ?_
  intro sv2 hok2
  refine l_sub (L' := [(6, .pointer (some ⟨b6, 0, none⟩)), (34, .agg (uC dir (sumW X) up dn gp (slV sv2 (X.map toO).length)).toArray)]) (H' := (b6, [.int .i64 0, .int .i64 0, .int .i64 0, .int .i64 0, .int .i64 0, .slice none 0 0], 24) :: slH sv2 (encO (X.map toO)) 38) ⟨rfl, rfl, trivial⟩ (.cons (.there .here) (.skip (.skip .right))) ?_
  refine l_does rfl rfl (g_storeN (vs := [_, _, _, _, _, _]) (cs' := [_, _, _, _, _, _]) sz_24 rfl rfl rfl rfl rfl (uC_one _ _ _ _ _ _ _) rfl .here) ?_
  intro _ _
  refine l_nil ?_
  refine q_then ?_
  refine c_ret ?_
  exact body_ret (rs := [.cell 6 24]) rfl (vs := [.agg (uC dir (sumW X) up dn gp (slV sv2 (X.map toO).length)).toArray]) ⟨⟨b6, 0, _, _, rfl, m0, .inr ⟨6, _, ld_24, rfl, rfl, rfl⟩⟩, trivial⟩ (out_end (X, sv2) (by rfl) (by rfl) (.skip .refl)) _ (.inr rfl)

set_option maxHeartbeats 4000000 in
theorem f17_any (w : World) (A0 : Option Addr) (cap0 : Nat) (gs : List OG) (dir ad up dn gp s : Int) (m : Int) (st en : Bool) (ms : List Nat) (hms : Shp ((gs.map (ofO (decide (2 ≤ dir)))).map GL.gl) 0 ms) (hcap : gs.length ≤ cap0) (hRO : RdO w A0 gs) (hlen : gs.length ≤ 36) (hdir : 0 ≤ dir ∧ dir ≤ 3) (had : inG ad) (hup : inG up) (hdn : inG dn) (hgp : inG gp)
    (hB : ∀ g ∈ gs, OB g) (hpos : ∀ g ∈ gs, (0 ≤ g.cl ∧ g.cl < m) ∧ 0 ≤ g.ru) (hcl : ∃ bs : List (List OG), gs = bs.flatten ∧ ∀ b ∈ bs, Blk1 b) (hs : -1048576 ≤ s ∧ s ≤ 1048576) :
    Calls Try.prog 17 [Value.agg (uC dir ad up dn gp (.slice A0 gs.length cap0)).toArray, .int .i64 s, .bool st, .bool en].toArray w (Out w [] (fun x : List GL × Sv => x.1 = (letL (hG (decide (2 ≤ dir)) (IntKind.i32.wrap (s.tdiv 2))) (tG (decide (2 ≤ dir)) (IntKind.i32.wrap (s.tdiv 2))) st en (gs.map (ofO (decide (2 ≤ dir)))).length 0 ms (gs.map (ofO (decide (2 ≤ dir))))))
      (fun x => .agg (uC dir (sumW x.1) up dn gp (slV x.2 (x.1.map toO).length)).toArray) (fun x => slH x.2 (encO (x.1.map toO)) 38)) := by
  refine enter (n := 31) Try.func17 rfl rfl rfl (Hp.refl w) ?_
  refine c_seq ?_
  -- region 0
  refine c_region ?_
  refine l_gives rfl rfl (g_box (vs := [_, _, _, _, _, _]) rfl rfl) rfl ?_
  intro b4 hb4
  refine l_gives rfl rfl (g_alloc ze_24) rfl ?_
  intro b8 hb8
  refine l_nil ?_
  refine q_then ?_
  refine c_seq ?_
  -- region 1
  refine c_region ?_
  refine l_val (y_loadN (vs := [_, _, _, _, _, _]) ld_24 rfl m1 rfl rfl) rfl rfl rfl ?_
  refine l_call ok_19 rfl rfl (out_new (fun w1 hw1 => f19_any w1 A0 cap0 gs dir ad up dn gp _ rfl hcap (hRO.keep hw1) (by omega) hdir had hup hdn hgp hB (fun g hg => ⟨(hpos g hg).1.1, (hpos g hg).2⟩) hcl)) ?_
  intro sv hok
  refine l_val (y_move rfl) rfl rfl rfl ?_
  refine l_val (y_extract rfl rfl) rfl rfl rfl ?_
  refine l_val (y_extract rfl rfl) rfl rfl rfl ?_
  refine l_gives rfl rfl (g_alloc ze_53) rfl ?_
  intro b9 hb9
  refine l_does rfl rfl (g_storeN (vs := [_, _, _, _, _, _, _, _, _, _, _, _, _, _]) (cs' := [_, _, _, _, _, _, _, _, _, _, _, _, _, _]) sz_53 rfl rfl rfl rfl rfl (oC_one _ _ _ _ _ _ _) rfl .here) ?_
  intro _ _
  refine l_val (y_assign rfl) rfl rfl rfl ?_
  refine l_nil ?_
  refine q_then ?_
  refine c_seq ?_
  refine c_seq ?_
  -- region 2
  refine c_region ?_
  refine l_val (y_move rfl) rfl rfl rfl ?_
  refine l_val (y_not rfl) rfl rfl rfl ?_
  refine l_val (y_move rfl) rfl rfl rfl ?_
  refine l_want rfl rfl ?_
  refine l_val (y_move rfl) rfl rfl rfl ?_
  refine l_want rfl rfl ?_
  refine l_call ok_25 rfl rfl (out_calm (fun w1 => f25_any s hs w1)) ?_
  intro _ _
  refine l_want rfl rfl ?_
  refine l_val (y_not rfl) rfl rfl rfl ?_
  refine l_val (y_pick rfl rfl rfl) rfl rfl rfl ?_
  refine l_nil ?_
  refine q_then ?_
  refine c_false rfl rfl ?_
  refine c_skip ?_
  refine q_then ?_
  refine c_seq ?_
  -- region 4
  refine c_region ?_
  refine l_val (y_move rfl) rfl rfl rfl ?_
  refine l_val (y_conv cv_3_44 rfl (fit32 (by omega) (by omega))) rfl rfl rfl ?_
  refine l_val (y_move rfl) rfl rfl rfl ?_
  refine l_val (y_move rfl) rfl rfl rfl ?_
  refine l_perm (.cons _ (List.perm_append_comm (l₁ := [_, _]))) ?_
  refine l_call ok_30 rfl rfl (out_head (H1 := (b9, oC ad up dn gp dir (slV sv (gs.map (ofO (decide (2 ≤ dir)))).length), 53) :: slH sv (encG (gs.map (ofO (decide (2 ≤ dir))))) 67) (R := [_, _]) (fun w1 ha hb => f30_any w1 b9 0 (fun ad => oC ad up dn gp dir (slV sv (gs.map (ofO (decide (2 ≤ dir)))).length)) ad up dn gp dir s st en hdir sv (gs.map (ofO (decide (2 ≤ dir)))) ms hms hok (by rw [List.length_map]; omega) (Mid.self up dn gp dir _) hb)) ?_
  intro _ _
  refine l_perm (.cons _ (List.perm_append_comm (l₂ := [_, _]))) ?_
  obtain ⟨X, hX⟩ : ∃ X, X = (letL (hG (decide (2 ≤ dir)) (IntKind.i32.wrap (s.tdiv 2))) (tG (decide (2 ≤ dir)) (IntKind.i32.wrap (s.tdiv 2))) st en (gs.map (ofO (decide (2 ≤ dir)))).length 0 ms (gs.map (ofO (decide (2 ≤ dir))))) := ⟨_, rfl⟩
  rw [← hX]
  have hXl : X.length = (gs.map (ofO (decide (2 ≤ dir)))).length := by rw [hX]; exact letL_len _ _ _ _ _ _ _ _
  have hokX := slOk_G hok hXl
  have hXB : ∀ g ∈ X, GB g := by rw [hX]; exact letL_all (hG_B _ _) (tG_B _ _) _ _ _ _ _ _ (ofO_B _ _ hB)
  rw [← hXl] at hokX ⊢
  refine l_nil ?_
  refine q_then ?_
  refine c_seq ?_
  -- region 5
  refine c_region ?_
  refine l_val (y_loadN (vs := [_, _, _, _, _, _, _, _, _, _, _, _, _, _]) ld_53 rfl m0 rfl rfl) rfl rfl rfl ?_
  refine l_call ok_21 rfl rfl (out_new (fun w1 hw1 => f21_any w1 (svA sv) (svC sv) X (sumW X) up dn gp dir _ (slV_eq hokX) (RdG_sv hw1 (.skip (.skip (.skip .refl))) hokX) hXB (by rw [hXl, List.length_map]; omega) (sumW_b _) (gb_b hup) (gb_b hdn) (gb_b hgp) hdir)) ?_
  intro sv2 hok2
  refine l_sub (L' := [(8, .pointer (some ⟨b8, 0, none⟩)), (30, .agg (uC dir (sumW X) up dn gp (slV sv2 (X.map toO).length)).toArray)]) (H' := (b8, [.int .i64 0, .int .i64 0, .int .i64 0, .int .i64 0, .int .i64 0, .slice none 0 0], 24) :: slH sv2 (encO (X.map toO)) 38) ⟨rfl, rfl, trivial⟩ (.cons (.there .here) (.skip (.skip .right))) ?_
  refine l_does rfl rfl (g_storeN (vs := [_, _, _, _, _, _]) (cs' := [_, _, _, _, _, _]) sz_24 rfl rfl rfl rfl rfl (uC_one _ _ _ _ _ _ _) rfl .here) ?_
  intro _ _
  refine l_nil ?_
  refine q_then ?_
  refine c_ret ?_
  exact body_ret (rs := [.cell 8 24]) rfl (vs := [.agg (uC dir (sumW X) up dn gp (slV sv2 (X.map toO).length)).toArray]) ⟨⟨b8, 0, _, _, rfl, m0, .inr ⟨6, _, ld_24, rfl, rfl, rfl⟩⟩, trivial⟩ (out_end (X, sv2) (by rfl) (by rfl) (.skip .refl)) _ (.inr rfl)

end Go.Proofs.Ytbepljmeflndkaa
