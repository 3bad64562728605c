/- FnSpaced. -/
import Derived.Test.YtbepljmeflndkaaC
import Derived.Test.YtbepljmeflndkaaVa
import Derived.Test.YtbepljmeflndkaaVb
import Derived.Test.YtbepljmeflndkaaVd
import Derived.Test.YtbepljmeflndkaaVf
namespace Go.Proofs.Ytbepljmeflndkaa
open Go.Eng
set_option maxRecDepth 100000
attribute [local irreducible] IntKind.wrap Int.tdiv Int.tmod Int.emod sm encO encG maxLen sepr

theorem fa_24_1 : fAt Try.prog 24 1 = some 1 := by kernel_rfl
attribute [local irreducible] sumW sumI spT srT
set_option maxHeartbeats 8000000 in
theorem f4_any (w : World) (A Aq : Option Addr) (cap capq : Nat) (ts : List Int) (qs : List (List OG)) (d word letter : Int) (hcap : ts.length ≤ cap) (hT : RdT w [] A ts) (hql : qs.length ≤ maxLen) (hQ : RdQ w Aq qs) (hd : 0 ≤ d ∧ d ≤ 255)
    (hw : -32768 ≤ word ∧ word ≤ 32767) (hl : -32768 ≤ letter ∧ letter ≤ 32767) :
    Calls Try.prog 4 [Value.slice A ts.length cap, .slice Aq qs.length capq, .int .u8 d, .int .i16 word, .int .i16 letter].toArray w (Out w [] (fun _ : Unit => True) (fun _ => .bool true) (fun _ => [])) := by
  have hd4 : d.tmod 4 = d % 4 := Int.tmod_eq_emod_of_nonneg hd.1
  have hd43 : 0 ≤ d.tmod 4 ∧ d.tmod 4 ≤ 3 := by omega
  refine enter (n := 80) Try.func4 rfl rfl rfl (Hp.refl w) ?_
  refine c_seq ?_
  -- region 0
  refine c_region ?_
  refine l_val (y_assign rfl) rfl rfl rfl ?_
  refine l_nil ?_
  refine q_then ?_
  refine c_seq ?_
  refine c_seq ?_
  -- region 1
  refine c_region ?_
  refine l_val (y_move rfl) rfl rfl rfl ?_
  refine l_val (y_len sl_29 rfl) rfl rfl rfl ?_
  refine l_val (y_bin rfl rfl rfl rfl) rfl rfl rfl ?_
  refine l_val (y_move rfl) rfl rfl rfl ?_
  refine l_split (t := 20) rfl rfl (fun hs20 => ?_) (fun hs20 => ?_)
  · skip
    refine l_not rfl rfl rfl rfl ?_
    refine l_not rfl rfl rfl rfl ?_
    refine l_not rfl rfl rfl rfl ?_
    refine l_val (y_pick rfl rfl rfl) rfl rfl rfl ?_
    refine l_nil ?_
    refine q_then ?_
    refine c_true rfl rfl ?_
    refine c_seq ?_
    -- region 2
    refine c_region ?_
    refine l_val (y_assign rfl) rfl rfl rfl ?_
    refine l_nil ?_
    refine q_then ?_
    refine c_ret ?_
    refine q_then_ret ?_
    exact body_ret (rs := [.tmp 10]) rfl (vs := [.bool true]) ⟨rfl, trivial⟩ (out_end () trivial rfl .nil) _ (.inr rfl)
  · skip
    refine l_want rfl rfl ?_
    refine l_val (y_move rfl) rfl rfl rfl ?_
    refine l_want rfl rfl ?_
    refine l_call ok_11 rfl rfl (out_new (fun w1 hw1 => f11_any w1 Aq capq qs hql (hQ.keep hw1))) ?_
    intro bf _
    refine l_want rfl rfl ?_
    refine l_val (y_not rfl) rfl rfl rfl ?_
    refine l_val (y_pick rfl rfl rfl) rfl rfl rfl ?_
    refine l_nil ?_
    refine q_then ?_
    refine c_cond rfl (fun hc24 => ?_) (fun hc24 => ?_)
    · skip
      refine c_seq ?_
      -- region 2
      refine c_region ?_
      refine l_val (y_assign rfl) rfl rfl rfl ?_
      refine l_nil ?_
      refine q_then ?_
      refine c_ret ?_
      refine q_then_ret ?_
      exact body_ret (rs := [.tmp 10]) rfl (vs := [.bool true]) ⟨rfl, trivial⟩ (out_end () trivial rfl .nil) _ (.inr rfl)
    · skip
      refine c_skip ?_
      refine q_then ?_
      refine c_seq ?_
      -- region 3
      refine c_region ?_
      refine l_val (y_move rfl) rfl rfl rfl ?_
      refine l_hsub .nil ?_
      refine l_call ok_12 rfl rfl (out_new (fun w1 hw1 => f12_any w1 A cap ts hcap (hT.empty hw1))) ?_
      intro ⟨bt, At, capt, tx⟩ ⟨ht1, ht40, htc, htx⟩
      simp only at ht1 ht40 htc htx ⊢
      refine l_hsub (H' := TxH bt) .right ?_
      refine l_val (y_assign rfl) rfl rfl rfl ?_
      refine l_nil ?_
      refine q_then ?_
      refine c_seq ?_
      -- region 4
      refine c_region ?_
      refine l_val (y_assign rfl) rfl rfl rfl ?_
      refine l_nil ?_
      refine q_then ?_
      refine c_seq ?_
      refine c_seq ?_
      -- region 5
      refine c_region ?_
      refine l_val (y_assign rfl) rfl rfl rfl ?_
      refine l_nil ?_
      refine q_then ?_
      refine c_block ?_
      refine c_perm (H' := (TxH bt ++ hpV []) ++ slH none (encV (d.tmod 4) []) 24) (by simp [hpV, slH]) ?_
      refine c_loop (ι := Nat × Sv × List RV) (φ := fun x => x.1 ≤ qs.length ∧ x.1 ≤ 4 ∧ slOk x.2.1 x.2.2.length 6 (encV (d.tmod 4) x.2.2) ∧ (∀ u ∈ x.2.2, u.Own) ∧ x.2.2.map RV.told = (qs.take x.1).map (fun l => (7, someL tx.length l))) (L' := fun x => [(1, .slice Aq qs.length capq), (2, .int .u8 d), (3, .int .i16 word), (4, .int .i16 letter), (11, .slice At tx.length capt), (12, slV x.2.1 x.2.2.length), (13, .int .i64 (x.1 : Int))]) (H' := fun x => (TxH bt ++ hpV x.2.2) ++ slH x.2.1 (encV (d.tmod 4) x.2.2) 24) (fun x => qs.length - x.1) (0, none, []) ⟨Nat.zero_le _, Nat.zero_le _, ⟨rfl, rfl⟩, (fun r hr => by simp at hr), rfl⟩ ⟨rfl, rfl, rfl, rfl, rfl, rfl, rfl, trivial⟩ .refl ?_
      intro ⟨k, svU, us⟩ ⟨hk, hk4, hokU, hown, hus⟩
      simp only at hk hk4 hokU hown hus ⊢
      refine c_seq ?_
      refine c_seq ?_
      -- region 6
      refine c_cut (ι := Unit) (φ := fun _ => True) (L' := fun _ => [(1, .slice Aq qs.length capq), (2, .int .u8 d), (3, .int .i16 word), (4, .int .i16 letter), (11, .slice At tx.length capt), (12, slV svU us.length), (13, .int .i64 (k : Int)), (34, .bool (decide (k < qs.length) && decide (k < 4)))]) (H' := fun _ => (TxH bt ++ hpV us) ++ slH svU (encV (d.tmod 4) us) 24) ?_ ?_
      · skip
        refine c_region ?_
        refine l_val (y_move rfl) rfl rfl rfl ?_
        refine l_val (y_move rfl) rfl rfl rfl ?_
        refine l_val (y_len sl_30 rfl) rfl rfl rfl ?_
        refine l_val (y_bin rfl rfl rfl rfl) rfl rfl rfl ?_
        refine l_val (y_move rfl) rfl rfl rfl ?_
        refine l_split (t := 31) rfl rfl (fun hs31 => ?_) (fun hs31 => ?_)
        · skip
          refine l_want rfl rfl ?_
          refine l_val (y_move rfl) rfl rfl rfl ?_
          refine l_want rfl rfl ?_
          refine l_val (y_bin rfl rfl rfl rfl) rfl rfl rfl ?_
          refine l_val (y_pick rfl rfl rfl) rfl rfl rfl ?_
          refine l_nil ?_
          exact q_cut () trivial ⟨rfl, rfl, rfl, rfl, rfl, rfl, rfl, (by first | exact someB (and4 hs31) | exact someB (and4f hs31)), trivial⟩ .refl
        · skip
          refine l_not rfl rfl rfl rfl ?_
          refine l_not rfl rfl rfl rfl ?_
          refine l_val (y_pick rfl rfl rfl) rfl rfl rfl ?_
          refine l_nil ?_
          exact q_cut () trivial ⟨rfl, rfl, rfl, rfl, rfl, rfl, rfl, (by first | exact someB (and4 hs31) | exact someB (and4f hs31)), trivial⟩ .refl
      intro _ _
      refine q_then ?_
      refine c_cond rfl (fun hc34 => ?_) (fun hc34 => ?_)
      · skip
        obtain ⟨hk2, hk4⟩ := and_dec hc34
        obtain ⟨l, hl0⟩ := some_at hk2
        obtain ⟨p, A2, c2, rfl, hpb, _, hRO, hpc⟩ := hQ k l hl0
        refine c_skip ?_
        refine q_then ?_
        refine c_seq ?_
        refine c_block ?_
        -- region 8
        refine c_region ?_
        refine l_val (y_move rfl) rfl rfl rfl ?_
        refine l_val (y_move rfl) rfl rfl rfl ?_
        refine l_val (y_move rfl) rfl rfl rfl ?_
        refine l_val (y_indexAddr es_30 rfl rfl hk2) rfl rfl rfl ?_
        refine l_val (y_oldLoad1 ld_22 rfl (by rw [block_add]; exact hpb) (by simp) (by rw [Nat.mul_one]; exact hpc)) rfl rfl rfl ?_
        refine l_val (y_move rfl) rfl rfl rfl ?_
        refine l_val (y_move rfl) rfl rfl rfl ?_
        refine l_val (y_len sl_29 rfl) rfl rfl rfl ?_
        refine l_call ok_5 rfl rfl (out_new (fun w1 hw1 => f5_any w1 A2 c2 l d tx.length hd (by omega) (hRO.keep hw1))) ?_
        intro svN hokN
        refine l_perm (swap24 _ _ _ _) ?_
        have hpsl : us.length = k := by have := congrArg List.length hus; simp at this; omega
        refine l_gives rfl rfl (g_buildSlice (cs := uC (d.tmod 4) 7 8 9 10 (slV svN (someL tx.length l).length) ++ []) sl_34 sz_24 ze_24 rfl rfl rfl rfl (by simp [Value.cells, uC]) rfl rfl) rfl ?_
        intro b46 hb46
        refine l_gives rfl rfl (g_appendT (by_ := 64) ([_] ++ (TxH bt ++ (hpV us ++ slH svN (encO (someL tx.length l)) 38))) sl_34 inf_24 rfl rfl rfl rfl (by decide) rfl rfl hokU rfl m0 rfl (uC_all _ _ _ _ _ _ _) (by unfold maxLen; omega) (by omega)) rfl ?_
        intro sv1 hok1
        have e1 : encV (d.tmod 4) us ++ uC (d.tmod 4) 7 8 9 10 (slV svN (someL tx.length l).length) = encV (d.tmod 4) (us ++ [(⟨7, someL tx.length l, svA svN, svC svN, slH svN (encO (someL tx.length l)) 38⟩ : RV)]) := by rw [slV_eq hokN]; simp [encV, RV.cells]
        have e2 : us.length + 1 = (us ++ [(⟨7, someL tx.length l, svA svN, svC svN, slH svN (encO (someL tx.length l)) 38⟩ : RV)]).length := by simp
        have e3 : hpV us ++ slH svN (encO (someL tx.length l)) 38 = hpV (us ++ [(⟨7, someL tx.length l, svA svN, svC svN, slH svN (encO (someL tx.length l)) 38⟩ : RV)]) := by simp [hpV]
        rw [e1, e2] at hok1
        rw [e1, e2, e3]
        refine l_val (y_assign rfl) rfl rfl rfl ?_
        refine l_nil ?_
        refine q_block ?_
        refine q_then ?_
        -- region 7
        refine c_region ?_
        refine l_val (y_move rfl) rfl rfl rfl ?_
        refine l_val (y_bin rfl rfl rfl (fitN (m := k + 1) (by omega) (by omega))) rfl rfl rfl ?_
        refine l_val (y_assign rfl) rfl rfl rfl ?_
        refine l_nil ?_
        exact q_rnd (k + 1, sv1, us ++ [(⟨7, someL tx.length l, svA svN, svC svN, slH svN (encO (someL tx.length l)) 38⟩ : RV)]) ⟨hk2, by simp only; omega, hok1, own_snoc hown ⟨svN, rfl, rfl, rfl, hokN⟩, told_snoc hus hl0 rfl⟩ (by simp only; omega) ⟨rfl, rfl, rfl, rfl, rfl, rfl, rfl, trivial⟩ (.skip .refl)
      · skip
        have hus2 := take_all4 hus hc34 hk hk4
        have hgU : ∀ u ∈ us, GdV tx u := gdV_of (by omega) rfl hus2
        have husl : us.length ≤ 4 := by have := congrArg List.length hus; simp at this; omega
        rw [slV_eq hokU]
        refine c_exit ?_
        refine q_then_exit ?_
        refine q_rnd_exit ?_
        refine q_block_exit ?_
        refine q_then ?_
        refine c_seq ?_
        -- region 9
        refine c_region ?_
        refine l_val (y_move rfl) rfl rfl rfl ?_
        refine l_val (y_move rfl) rfl rfl rfl ?_
        refine l_val (y_move rfl) rfl rfl rfl ?_
        refine l_val (y_conv cv_31_3 rfl (fit64 (by omega) (by omega))) rfl rfl rfl ?_
        refine l_val (y_move rfl) rfl rfl rfl ?_
        refine l_val (y_conv cv_31_3 rfl (fit64 (by omega) (by omega))) rfl rfl rfl ?_
        refine l_call ok_13 rfl rfl (out_new (fun w1 hw1 => f13_any w1 (svA svU) At (svC svU) capt (d.tmod 4) word letter tx us hd43 (RdV_sv hw1 .right hokU (fun r hr => rd_own hw1 (.left .right) hr (hown r hr))) (by omega) hgU (tx_rd htx hT (hw1.sub (.left (.left .refl)))) (by omega) (by omega))) ?_
        intro ⟨svP, rp⟩ ⟨hokP, hownP, htP⟩
        simp only at hokP hownP htP ⊢
        refine l_val (y_move rfl) rfl rfl rfl ?_
        refine l_val (y_move rfl) rfl rfl rfl ?_
        refine l_val (y_move rfl) rfl rfl rfl ?_
        refine l_val (y_conv cv_31_3 rfl (fit64 (by omega) (by omega))) rfl rfl rfl ?_
        refine l_val (y_move rfl) rfl rfl rfl ?_
        refine l_val (y_conv cv_31_3 rfl (fit64 (by omega) (by omega))) rfl rfl rfl ?_
        refine l_call ok_14 rfl rfl (out_new (fun w1 hw1 => f14_any w1 (svA svU) At (svC svU) capt (d.tmod 4) word letter tx us (RdV_sv hw1 (.left .right) hokU (fun r hr => rd_own hw1 (.left (.left .right)) hr (hown r hr))) (by omega) hgU (tx_rd htx hT (hw1.sub (.left (.left (.left .refl))))))) ?_
        intro ⟨svR, rr⟩ ⟨hokR, horR, htR⟩
        simp only at hokR horR htR ⊢
        have hpr : rp.map RV.told = rr.map RV.told := by rw [htP, htR]; exact spaced_same hw hl us hgU
        have hplr : rp.length = us.length := by have := congrArg List.length htP; simp [mapI_len] at this; exact this
        have hp36 : ∀ r ∈ rp, r.gs.length ≤ 1000 := gl_bd hgU htP
        rw [slV_eq hokP, slV_eq hokR]
        refine l_val (y_assign rfl) rfl rfl rfl ?_
        refine l_val (y_assign rfl) rfl rfl rfl ?_
        refine l_nil ?_
        refine q_then ?_
        refine c_seq ?_
        refine c_seq ?_
        -- region 10
        refine c_region ?_
        refine l_val (y_move rfl) rfl rfl rfl ?_
        refine l_val (y_move rfl) rfl rfl rfl ?_
        refine l_call ok_15 rfl rfl (fun w1 hw1 => out_plain hw1 (f15_any w1 (svA svP) (svA svR) (svC svP) (svC svR) (d.tmod 4) rp rr (RdV_sv hw1 (.left sub_rl) hokP (fun r hr => rd_own hw1 (.left sub_rr) hr (hownP r hr))) (RdV_sv hw1 sub_rl hokR (fun r hr => rd_two hw1 sub_rr (.left (.left (.left .right))) hown hr (horR r hr))) hpr (by omega) hp36)) ?_
        intro _ _
        refine l_val (y_not rfl) rfl rfl rfl ?_
        refine l_nil ?_
        refine q_then ?_
        refine c_false rfl rfl ?_
        refine c_skip ?_
        refine q_then ?_
        refine c_seq ?_
        -- region 12
        refine c_region ?_
        refine l_hsub .nil ?_
        refine l_val (y_build1 (out := [_, _, _, _, _, _, _, _, _, _]) bp_38 rfl rfl rfl) rfl rfl rfl ?_
        refine l_gives rfl rfl (g_buildSlice (cs := OG.cells g5 ++ []) sl_22 sz_38 ze_38 rfl rfl rfl rfl (by simp [Value.cells]) rfl rfl) rfl ?_
        intro b67 hb67
        rw [← enc_g5]
        refine l_call ok_5 rfl rfl (out_new (fun w1 hw1 => f5_any w1 (some ⟨b67, 0, none⟩) 1 [g5] 0 1 (by omega) (by omega) (RdO_sv (sv := some (b67, [], 1)) (e := 38) hw1 .refl ok_g5))) ?_
        intro svF hokF
        rw [slV_eq hokF]
        refine l_gives rfl rfl (g_alloc ze_24) rfl ?_
        intro b16 hb16
        refine l_does rfl rfl (g_storeN (vs := [_, _, _, _, _, _]) (cs' := [_, _, _, _, _, _]) sz_24 rfl rfl rfl rfl rfl rfl rfl .here) ?_
        intro _ _
        refine l_nil ?_
        refine q_then ?_
        refine c_seq ?_
        -- region 13
        refine c_region ?_
        refine l_val (y_loadN (vs := [_, _, _, _, _, _]) ld_24 rfl m0 rfl rfl) rfl rfl rfl ?_
        refine l_gives rfl rfl (g_buildSlice (cs := [_]) sl_29 sz_21 ze_21 rfl rfl rfl rfl (by simp [Value.cells]) rfl rfl) rfl ?_
        intro b70 hb70
        refine l_call ok_16 rfl rfl (out_new (fun w1 hw1 => f16_any w1 (svA svF) (svC svF) (someL 1 [g5]) (Int.tmod 0 4) 7 8 9 10 64 (some ⟨b70, 0, none⟩) 1 [32] (tx_own w b70 w1 (hw1.sub (.cons .here .nil))) (slOk_cap hokF) (RdO_sv hw1 (.skip (.skip (.skip .refl))) hokF) (someL_len 1 [g5]) dir0 (inG_small (by omega)) (inG_small (by omega)) (inG_small (by omega)) (inG_small (by omega)) (someL_OB 1 [g5]) (someL_pos 1 (by decide) [g5]) (someL_cl 1 [g5]) (by omega))) ?_
        intro ⟨X1, sv3⟩ hX1
        simp only at hX1 ⊢
        refine l_val (y_field fa_24_1 rfl rfl) rfl rfl rfl ?_
        refine l_val (y_bin rfl rfl rfl (boolEq (ad69 hX1))) rfl rfl rfl ?_
        refine l_val (y_move rfl) rfl rfl rfl ?_
        refine l_want rfl rfl ?_
        refine l_val (y_loadN (vs := [_, _, _, _, _, _]) ld_24 rfl m1 rfl rfl) rfl rfl rfl ?_
        refine l_want rfl rfl ?_
        refine l_call ok_17 rfl rfl (out_new (fun w1 hw1 => f17_any w1 (svA svF) (svC svF) (someL 1 [g5]) (Int.tmod 0 4) 7 8 9 10 64 1 true false [1] shp5 (slOk_cap hokF) (RdO_sv hw1 (.skip (.skip (.left (.skip .refl)))) hokF) (someL_len 1 [g5]) dir0 (inG_small (by omega)) (inG_small (by omega)) (inG_small (by omega)) (inG_small (by omega)) (someL_OB 1 [g5]) (someL_pos 1 (by decide) [g5]) (someL_cl 1 [g5]) (by omega))) ?_
        intro ⟨X2, sv4⟩ hX2
        simp only at hX2 ⊢
        refine l_want rfl rfl ?_
        refine l_val (y_field fa_24_1 rfl rfl) rfl rfl rfl ?_
        refine l_want rfl rfl ?_
        refine l_val (y_bin rfl rfl rfl (boolEq (ad37 hX2))) rfl rfl rfl ?_
        refine l_val (y_pick rfl rfl rfl) rfl rfl rfl ?_
        refine l_val (y_assign rfl) rfl rfl rfl ?_
        refine l_nil ?_
        refine q_then ?_
        refine c_ret ?_
        exact body_ret (rs := [.tmp 10]) rfl (vs := [.bool true]) ⟨rfl, trivial⟩ (out_end () trivial rfl .nil) _ (.inr rfl)

end Go.Proofs.Ytbepljmeflndkaa
