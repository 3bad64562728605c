/- Spaced. -/
import Derived.Test.YtbepljmeflndkaaI
import Derived.Test.YtbepljmeflndkaaS
import Derived.Test.YtbepljmeflndkaaX
import Derived.Test.YtbepljmeflndkaaY
namespace Go.Proofs.Ytbepljmeflndkaa
open Go.Eng
set_option maxRecDepth 100000
attribute [local irreducible] IntKind.wrap Int.tdiv Int.tmod Int.emod sm encO encG maxLen sepr

theorem b32_8 : b32 8 := by unfold b32; omega
theorem b32_9 : b32 9 := by unfold b32; omega
theorem b32_10 : b32 10 := by unfold b32; omega
set_option maxHeartbeats 8000000 in
theorem f13_any (w : World) (A0 A : Option Addr) (cap0 cap : Nat) (dir word letter : Int) (ts : List Int) (ins : List RV) (hdir : 0 ≤ dir ∧ dir ≤ 3) (hR : RdV w A0 dir ins) (hlen : ins.length ≤ 1000) (hgood : ∀ r ∈ ins, GdV ts r)
    (hT : RdT w [] A ts) (hW : -1048576 ≤ word ∧ word ≤ 1048576) (hLt : -1048576 ≤ letter ∧ letter ≤ 1048576) :
    Calls Try.prog 13 [Value.slice A0 ins.length cap0, .slice A ts.length cap, .int .i64 word, .int .i64 letter].toArray w (Out w []
      (fun x : Sv × List RV => slOk x.1 x.2.length 6 (encV dir x.2) ∧ (∀ u ∈ x.2, u.Own) ∧ x.2.map RV.told = (mapI (spT (decide (2 ≤ dir)) ts word letter ins.length) 0 (ins.map (tellG (decide (2 ≤ dir))))).map tellO)
      (fun x => slV x.1 x.2.length) (fun x => slH x.1 (encV dir x.2) 24 ++ hpV x.2)) := by
  refine enter (n := 69) Try.func13 rfl rfl rfl (Hp.refl w) ?_
  refine c_seq ?_
  -- region 0
  refine c_region ?_
  refine l_val (y_assign rfl) rfl rfl rfl ?_
  refine l_nil ?_
  refine q_then ?_
  refine c_seq ?_
  -- region 1
  refine c_region ?_
  refine l_val (y_assign rfl) rfl rfl rfl ?_
  refine l_nil ?_
  refine q_then ?_
  refine c_seq ?_
  refine c_seq ?_
  -- region 2
  refine c_region ?_
  refine l_val (y_move rfl) rfl rfl rfl ?_
  refine l_val (y_len sl_34 rfl) rfl rfl rfl ?_
  refine l_val (y_move rfl) rfl rfl rfl ?_
  refine l_nil ?_
  refine q_then ?_
  refine c_block ?_
  refine c_loop (ι := Nat × Sv × List RP) (φ := fun x => x.1 ≤ ins.length ∧ slOk x.2.1 x.2.2.length 14 (encP dir x.2.2) ∧ okP x.2.2 ∧ x.2.2.map RP.told = (ins.take x.1).map (tellG (decide (2 ≤ dir)))) (L' := fun x => [(1, .slice A ts.length cap), (2, .int .i64 word), (3, .int .i64 letter), (8, .slice none 0 0), (9, slV x.2.1 x.2.2.length), (16, .slice A0 ins.length cap0), (17, .int .i64 (ins.length : Int)), (18, .int .i64 (x.1 : Int))]) (H' := fun x => hpP x.2.2 ++ slH x.2.1 (encP dir x.2.2) 53) (fun x => ins.length - x.1) (0, none, []) ⟨Nat.zero_le _, ⟨rfl, rfl⟩, (fun r hr => by simp at hr), rfl⟩ ⟨rfl, rfl, rfl, rfl, rfl, rfl, rfl, rfl, trivial⟩ .refl ?_
  intro ⟨k, svO, ps⟩ ⟨hk, hok, hokP, htold⟩
  simp only at hk hok hokP htold ⊢
  refine c_seq ?_
  -- region 3
  refine c_region ?_
  refine l_val (y_bin rfl rfl rfl rfl) rfl rfl rfl ?_
  refine l_nil ?_
  refine q_then ?_
  refine c_seq ?_
  refine c_cond rfl (fun hc19 => ?_) (fun hc19 => ?_)
  · skip
    have hk2 : k < ins.length := by simp only [decide_eq_true_eq] at hc19; omega
    obtain ⟨r, hr⟩ := some_at hk2
    have hgd := hgood r (List.mem_of_getElem? hr)
    obtain ⟨hcap, hRO, p, rfl, hpb, hpc⟩ := hR k r hr
    have hgl := hgd.len
    have hpsl : ps.length = k := by have := congrArg List.length htold; simp at this; omega
    refine c_skip ?_
    refine q_then ?_
    refine c_seq ?_
    refine c_block ?_
    refine c_seq ?_
    -- region 4
    refine c_region ?_
    refine l_val (y_indexAddr es_34 rfl rfl hk2) rfl rfl rfl ?_
    refine l_val (y_oldLoadN (vs := RV.cells dir r) ld_24 rfl (by rw [block_add]; exact hpb) (by simp) rfl (fun j v hj => by rw [add_add]; exact hpc j v hj)) rfl rfl rfl ?_
    refine l_gives rfl rfl (g_alloc ze_24) rfl ?_
    intro b11 hb11
    refine l_does rfl rfl (g_storeN (vs := [_, _, _, _, _, _]) (cs' := [_, _, _, _, _, _]) sz_24 rfl rfl rfl rfl rfl rfl rfl .here) ?_
    intro _ _
    refine l_nil ?_
    refine q_then ?_
    refine c_seq ?_
    -- region 5
    refine c_region ?_
    refine l_val (y_loadN (vs := [_, _, _, _, _, _]) ld_24 rfl m0 rfl rfl) rfl rfl rfl ?_
    refine l_call ok_19 rfl rfl (out_new (fun w1 hw1 => f19_any w1 r.A r.cap r.gs dir r.ad 8 9 10 _ rfl hcap (hRO.keep hw1) (by omega) hdir hgd.ad (inG_small (by omega)) (inG_small (by omega)) (inG_small (by omega)) hgd.ob (fun g hg => ⟨(hgd.pos g hg).1.1, (hgd.pos g hg).2⟩) hgd.cl)) ?_
    intro svN hokN
    refine l_perm (.cons _ (swap23 _ _ _)) ?_
    refine l_val (y_move rfl) rfl rfl rfl ?_
    refine l_val (y_extract rfl rfl) rfl rfl rfl ?_
    refine l_val (y_extract rfl rfl) rfl rfl rfl ?_
    refine l_gives rfl rfl (g_alloc ze_53) rfl ?_
    intro b12 hb12
    refine l_does rfl rfl (g_storeN (vs := [_, _, _, _, _, _, _, _, _, _, _, _, _, _]) (cs' := [_, _, _, _, _, _, _, _, _, _, _, _, _, _]) sz_53 rfl rfl rfl rfl rfl (oC_one _ _ _ _ _ _ _) rfl .here) ?_
    intro _ _
    refine l_val (y_assign rfl) rfl rfl rfl ?_
    refine l_nil ?_
    refine q_then ?_
    refine c_seq ?_
    refine c_seq ?_
    -- region 6
    refine c_region ?_
    refine l_val (y_move rfl) rfl rfl rfl ?_
    refine l_val (y_not rfl) rfl rfl rfl ?_
    refine l_val (y_move rfl) rfl rfl rfl ?_
    refine l_want rfl rfl ?_
    refine l_val (y_loadN (vs := [_, _, _, _, _, _]) ld_24 rfl m1 rfl rfl) rfl rfl rfl ?_
    refine l_want rfl rfl ?_
    refine l_val (y_move rfl) rfl rfl rfl ?_
    refine l_want rfl rfl ?_
    refine l_val (y_len sl_29 rfl) rfl rfl rfl ?_
    refine l_want rfl rfl ?_
    refine l_call ok_24 rfl rfl (fun w1 hw1 => out_plain hw1 (f24_any w1 r.A r.cap r.gs dir r.ad 8 9 10 ts.length _ rfl (hRO.keep hw1) (by omega) (fun g hg => (hgd.pos g hg).1.2))) ?_
    intro _ _
    refine l_want rfl rfl ?_
    refine l_val (y_not rfl) rfl rfl rfl ?_
    refine l_val (y_pick rfl rfl rfl) rfl rfl rfl ?_
    refine l_nil ?_
    refine q_then ?_
    refine c_false rfl rfl ?_
    refine c_skip ?_
    refine q_then ?_
    -- region 8
    refine c_region ?_
    refine l_val (y_move rfl) rfl rfl rfl ?_
    refine l_val (y_loadN (vs := [_, _, _, _, _, _, _, _, _, _, _, _, _, _]) ld_53 rfl m0 rfl rfl) rfl rfl rfl ?_
    refine l_gives rfl rfl (g_buildSlice (cs := oC r.ad 8 9 10 dir (slV svN (r.gs.map (ofO (decide (2 ≤ dir)))).length) ++ []) sl_57 sz_53 ze_53 rfl rfl rfl rfl (by simp [Value.cells]) rfl rfl) rfl ?_
    intro b38 hb38
    refine l_gives rfl rfl (g_appendT (by_ := 96) ([_, _, _] ++ (hpP ps ++ slH svN (encG (r.gs.map (ofO (decide (2 ≤ dir))))) 67)) sl_57 inf_53 rfl rfl rfl rfl (by decide) rfl rfl hok rfl m0 rfl (oC_all _ _ _ _ _ _ _) (by unfold maxLen; omega) (by omega)) rfl ?_
    intro sv1 hok1
    have e1 : encP dir ps ++ oC r.ad 8 9 10 dir (slV svN (r.gs.map (ofO (decide (2 ≤ dir)))).length) = encP dir (ps ++ [(⟨r.ad, (r.gs.map (ofO (decide (2 ≤ dir)))), svN⟩ : RP)]) := by simp [encP, RP.cells]
    have e2 : ps.length + 1 = (ps ++ [(⟨r.ad, (r.gs.map (ofO (decide (2 ≤ dir)))), svN⟩ : RP)]).length := by simp
    have e3 : hpP ps ++ slH svN (encG (r.gs.map (ofO (decide (2 ≤ dir))))) 67 = hpP (ps ++ [(⟨r.ad, (r.gs.map (ofO (decide (2 ≤ dir)))), svN⟩ : RP)]) := by simp [hpP]
    rw [e1, e2] at hok1
    rw [e1, e2, e3]
    refine l_val (y_assign rfl) rfl rfl rfl ?_
    refine l_nil ?_
    refine q_block ?_
    refine q_then ?_
    -- region 9
    refine c_region ?_
    refine l_val (y_bin rfl rfl rfl (fitN (m := k + 1) (by omega) (by omega))) rfl rfl rfl ?_
    refine l_val (y_move rfl) rfl rfl rfl ?_
    refine l_nil ?_
    exact q_rnd (k + 1, sv1, ps ++ [(⟨r.ad, (r.gs.map (ofO (decide (2 ≤ dir)))), svN⟩ : RP)]) ⟨hk2, hok1, okP_snoc hokP (by simpa using hokN), told_snoc htold hr rfl⟩ (by simp only; omega) ⟨rfl, rfl, rfl, rfl, rfl, rfl, rfl, rfl, trivial⟩ (.skip (.skip (.skip .refl)))
  · skip
    have htold2 : ps.map RP.told = ins.map (tellG (decide (2 ≤ dir))) := by rw [htold, List.take_of_length_le (by simp only [decide_eq_false_iff_not] at hc19; omega)]
    have hpl : ps.length = ins.length := by simpa using congrArg List.length htold2
    obtain ⟨hgP, hgB⟩ := gdP_of htold2 hokP hgood
    refine c_exit ?_
    refine q_then_exit ?_
    refine q_rnd_exit ?_
    refine q_block_exit ?_
    refine q_then ?_
    refine c_seq ?_
    refine c_seq ?_
    -- region 10
    refine c_region ?_
    refine l_val (y_move rfl) rfl rfl rfl ?_
    refine l_call ok_25 rfl rfl (out_calm (fun w1 => f25_any word hW w1)) ?_
    intro _ _
    refine l_val (y_not rfl) rfl rfl rfl ?_
    refine l_val (y_move rfl) rfl rfl rfl ?_
    refine l_want rfl rfl ?_
    refine l_val (y_move rfl) rfl rfl rfl ?_
    refine l_want rfl rfl ?_
    refine l_call ok_25 rfl rfl (out_calm (fun w1 => f25_any letter hLt w1)) ?_
    intro _ _
    refine l_want rfl rfl ?_
    refine l_val (y_not rfl) rfl rfl rfl ?_
    refine l_val (y_pick rfl rfl rfl) rfl rfl rfl ?_
    refine l_nil ?_
    refine q_then ?_
    refine c_false rfl rfl ?_
    refine c_skip ?_
    refine q_then ?_
    refine c_seq ?_
    -- region 12
    refine c_region ?_
    refine l_val (y_move rfl) rfl rfl rfl ?_
    refine l_val (y_move rfl) rfl rfl rfl ?_
    refine l_val (y_move rfl) rfl rfl rfl ?_
    refine l_val (y_conv cv_3_44 rfl (fit32 (by omega) (by omega))) rfl rfl rfl ?_
    refine l_val (y_move rfl) rfl rfl rfl ?_
    refine l_val (y_conv cv_3_44 rfl (fit32 (by omega) (by omega))) rfl rfl rfl ?_
    refine l_perm List.perm_append_comm ?_
    refine l_call ok_26 rfl rfl (out_all (fun w1 ha hb => f26_any w1 svO cap dir word letter A ts ps hdir hok (by omega) hgP (hT.into ha) hb)) ?_
    intro _ _
    obtain ⟨ps2, hps2⟩ : ∃ ps2, ps2 = mapI (spP (decide (2 ≤ dir)) ts word letter ps.length) 0 ps := ⟨_, rfl⟩
    rw [← hps2]
    obtain ⟨hl2, hq2⟩ := spP_ok hgP hgB hps2
    have hok2 := slOk_P hok hl2
    rw [← hl2]
    refine l_nil ?_
    refine q_then ?_
    refine c_seq ?_
    refine c_seq ?_
    -- region 13
    refine c_region ?_
    refine l_val (y_move rfl) rfl rfl rfl ?_
    refine l_val (y_lenSv sl_57 rfl hok2.nil) rfl rfl rfl ?_
    refine l_val (y_move rfl) rfl rfl rfl ?_
    refine l_nil ?_
    refine q_then ?_
    refine c_block ?_
    refine c_perm (H' := slH svO (encP dir ps2) 53 ++ ((hpP ps2 ++ hpV []) ++ slH none (encV dir []) 24)) (by simp [hpV, slH]) ?_
    refine c_loop (ι := Nat × Sv × List RV) (φ := fun x => x.1 ≤ ps2.length ∧ slOk x.2.1 x.2.2.length 6 (encV dir x.2.2) ∧ (∀ u ∈ x.2.2, u.Own) ∧ x.2.2.map RV.told = (ps2.take x.1).map (fun p => tellO p.told)) (L' := fun x => [(8, slV x.2.1 x.2.2.length), (56, slV svO ps2.length), (57, .int .i64 (ps2.length : Int)), (58, .int .i64 (x.1 : Int))]) (H' := fun x => slH svO (encP dir ps2) 53 ++ ((hpP ps2 ++ hpV x.2.2) ++ slH x.2.1 (encV dir x.2.2) 24)) (fun x => ps2.length - x.1) (0, none, []) ⟨Nat.zero_le _, ⟨rfl, rfl⟩, (fun r hr => by simp at hr), rfl⟩ ⟨rfl, rfl, rfl, rfl, trivial⟩ .refl ?_
    intro ⟨k, svU, us⟩ ⟨hk, hokU, hown, hus⟩
    simp only at hk hokU hown hus ⊢
    refine c_seq ?_
    -- region 14
    refine c_region ?_
    refine l_val (y_bin rfl rfl rfl rfl) rfl rfl rfl ?_
    refine l_nil ?_
    refine q_then ?_
    refine c_seq ?_
    refine c_cond rfl (fun hc59 => ?_) (fun hc59 => ?_)
    · skip
      have hk2 : k < ps2.length := by simp only [decide_eq_true_eq] at hc59; omega
      obtain ⟨q, hq⟩ := some_at hk2
      have hqd := hq2 q (List.mem_of_getElem? hq)
      have husl : us.length = k := by have := congrArg List.length hus; simp at this; omega
      obtain _ | ⟨bO, sp, cap1⟩ := svO
      · exact absurd hok2.2 (by simp only; omega)
      refine c_perm (H' := (bO, encP dir ps2 ++ sp, 53) :: ((hpP ps2 ++ hpV us) ++ slH svU (encV dir us) 24)) (.refl _) ?_
      refine c_skip ?_
      refine q_then ?_
      refine c_seq ?_
      refine c_block ?_
      refine c_seq ?_
      -- region 15
      refine c_region ?_
      refine l_val (y_indexAddrOwn es_57 rfl rfl hk2) rfl rfl rfl ?_
      refine l_val (y_loadN (vs := RP.cells dir q) ld_53 rfl m0 (encP_at hq) rfl) rfl rfl rfl ?_
      refine l_gives rfl rfl (g_alloc ze_53) rfl ?_
      intro b15 hb15
      refine l_does rfl rfl (g_storeN (vs := [_, _, _, _, _, _, _, _, _, _, _, _, _, _]) (cs' := [_, _, _, _, _, _, _, _, _, _, _, _, _, _]) sz_53 rfl rfl rfl rfl rfl (oC_one _ _ _ _ _ _ _) rfl .here) ?_
      intro _ _
      refine l_nil ?_
      refine q_then ?_
      -- region 16
      refine c_region ?_
      refine l_val (y_move rfl) rfl rfl rfl ?_
      refine l_val (y_loadN (vs := [_, _, _, _, _, _, _, _, _, _, _, _, _, _]) ld_53 rfl m0 rfl rfl) rfl rfl rfl ?_
      refine l_call ok_21 rfl rfl (out_new (fun w1 hw1 => f21_any w1 (svA q.sv) (svC q.sv) q.gs q.ad 8 9 10 dir _ (slV_eq hqd.1) (RdG_in hw1 (.skip (.skip (.left (.left .refl)))) (List.mem_of_getElem? hq) hqd.1) hqd.2.2.2 hqd.2.1 hqd.2.2.1 b32_8 b32_9 b32_10 hdir)) ?_
      intro svN hokN
      refine l_perm (.cons _ (.cons _ (swap24 _ _ _ _))) ?_
      refine l_gives rfl rfl (g_buildSlice (cs := uC dir q.ad 8 9 10 (slV svN (q.gs.map toO).length) ++ []) sl_34 sz_24 ze_24 rfl rfl rfl rfl (by simp [Value.cells, uC]) rfl rfl) rfl ?_
      intro b65 hb65
      refine l_gives rfl rfl (g_appendT (by_ := 64) ([_, _, _] ++ (hpP ps2 ++ (hpV us ++ slH svN (encO (q.gs.map toO)) 38))) sl_34 inf_24 rfl rfl rfl rfl (by decide) rfl rfl hokU rfl m0 rfl (uC_all _ _ _ _ _ _ _) (by unfold maxLen; omega) (by omega)) rfl ?_
      intro sv1 hok1
      have e1 : encV dir us ++ uC dir q.ad 8 9 10 (slV svN (q.gs.map toO).length) = encV dir (us ++ [(⟨q.ad, q.gs.map toO, svA svN, svC svN, slH svN (encO (q.gs.map toO)) 38⟩ : RV)]) := by rw [slV_eq hokN]; simp [encV, RV.cells]
      have e2 : us.length + 1 = (us ++ [(⟨q.ad, q.gs.map toO, svA svN, svC svN, slH svN (encO (q.gs.map toO)) 38⟩ : RV)]).length := by simp
      have e3 : hpV us ++ slH svN (encO (q.gs.map toO)) 38 = hpV (us ++ [(⟨q.ad, q.gs.map toO, svA svN, svC svN, slH svN (encO (q.gs.map toO)) 38⟩ : RV)]) := by simp [hpV]
      rw [e1, e2] at hok1
      rw [e1, e2, e3]
      refine l_val (y_assign rfl) rfl rfl rfl ?_
      refine l_nil ?_
      refine q_block ?_
      refine q_then ?_
      -- region 17
      refine c_region ?_
      refine l_val (y_bin rfl rfl rfl (fitN (m := k + 1) (by omega) (by omega))) rfl rfl rfl ?_
      refine l_val (y_move rfl) rfl rfl rfl ?_
      refine l_nil ?_
      exact q_rnd (k + 1, sv1, us ++ [(⟨q.ad, q.gs.map toO, svA svN, svC svN, slH svN (encO (q.gs.map toO)) 38⟩ : RV)]) ⟨hk2, hok1, own_snoc hown ⟨svN, rfl, rfl, rfl, hokN⟩, told_snoc hus hq rfl⟩ (by simp only; omega) ⟨rfl, rfl, rfl, rfl, trivial⟩ (.cons (.there (.there .here)) (.skip (.skip .refl)))
    · skip
      rw [List.take_of_length_le (by simp only [decide_eq_false_iff_not] at hc59; omega)] at hus
      refine c_exit ?_
      refine q_then_exit ?_
      refine q_rnd_exit ?_
      refine q_block_exit ?_
      refine q_then ?_
      refine c_seq ?_
      -- region 18
      refine c_region ?_
      refine l_val (y_move rfl) rfl rfl rfl ?_
      refine l_val (y_assign rfl) rfl rfl rfl ?_
      refine l_nil ?_
      refine q_then ?_
      refine c_ret ?_
      refine q_perm (fin13 _ _ _ _) ?_
      exact body_ret (rs := [.tmp 8]) rfl (vs := [slV svU us.length]) ⟨rfl, trivial⟩ (out_end (svU, us) ⟨hokU, hown, tell_spT htold2 hpl hps2 hus⟩ rfl (.left .refl)) _ (.inr rfl)

end Go.Proofs.Ytbepljmeflndkaa
