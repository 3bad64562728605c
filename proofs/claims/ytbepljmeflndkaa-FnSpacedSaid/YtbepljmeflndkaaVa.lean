/- SpacedRef. -/
import Derived.Test.YtbepljmeflndkaaV
import Derived.Test.YtbepljmeflndkaaY
namespace Go.Proofs.Ytbepljmeflndkaa
open Go.Eng
set_option maxRecDepth 100000
attribute [local irreducible] IntKind.wrap Int.tdiv Int.tmod Int.emod sm encO encG maxLen sepr

theorem l_hsub {P : Program} {Q : Exit → Act → World → Prop} {n : Nat} {D : List Deferred} {w0 : World} {S : List Nat} {L : Slots} {H H' : Heap} {ops : Array Oper} {l : List Oper} (hH : SubH H' H) (h : Wl P Q n D w0 S ops l L H') : Wl P Q n D w0 S ops l L H := fun a w ha hw => h a w ha (hw.sub hH)
theorem rd_or {w w1 : World} {H : Heap} {ins : List RV} {y : RV} {A0 : Option Addr} {dir : Int} (hw1 : Hp w [] H w1) (hs : SubH y.Hx H) (ho : y.Own ∨ y.Alias ins) (hR : RdV w A0 dir ins) : y.gs.length ≤ y.cap ∧ RdO w1 y.A y.gs := by
  rcases ho with ⟨sv, hA, hc, hx, hok⟩ | ⟨_, x, hx, h1, h2, h3⟩
  · rw [hA, hc]
    rw [hx] at hs
    exact ⟨slOk_cap hok, RdO_sv hw1 hs hok⟩
  · obtain ⟨i, hi⟩ := List.getElem?_of_mem hx
    obtain ⟨hc, hRO, _⟩ := hR i x hi
    rw [h1, h2, h3]
    exact ⟨hc, hRO.keep hw1⟩
theorem or_snoc {us ins : List RV} {r : RV} (h : ∀ u ∈ us, u.Own ∨ u.Alias ins) (hr : r.Own ∨ r.Alias ins) : ∀ u ∈ us ++ [r], u.Own ∨ u.Alias ins := by
  intro x hx
  rcases List.mem_append.1 hx with hx | hx
  · exact h x hx
  · rw [List.mem_singleton] at hx
    rw [hx]
    exact hr
theorem toldI_snoc {f : Nat → Int × List OG → Int × List OG} {us ins : List RV} {k : Nat} {r z : RV} (h : us.map RV.told = mapI f 0 ((ins.take k).map RV.told)) (hr : ins[k]? = some r) (hz : z.told = f k r.told) : (us ++ [z]).map RV.told = mapI f 0 ((ins.take (k + 1)).map RV.told) := by
  have hk : k < ins.length := (List.getElem?_eq_some_iff.1 hr).1
  rw [take_succ' hr, List.map_append, List.map_append, mapI_app, h, List.map_singleton, List.map_singleton, hz]
  have : 0 + ((ins.take k).map RV.told).length = k := by simp; omega
  rw [this]
  rfl
theorem vC_all (dir : Int) (z : RV) : ∀ u ∈ RV.cells dir z, u.oneCell' = true := by
  have : (RV.cells dir z).all Value.oneCell' = true := rfl
  exact List.all_eq_true.1 this
theorem swap34 {α : Type} (a y c d : List α) : (((a ++ y) ++ c) ++ d).Perm (((a ++ d) ++ c) ++ y) := by
  have h1 : (((a ++ y) ++ c) ++ d).Perm (((a ++ c) ++ y) ++ d) := List.Perm.append_right _ (swap23 _ _ _)
  have h2 : (((a ++ c) ++ y) ++ d).Perm (((a ++ c) ++ d) ++ y) := swap23 _ _ _
  exact (h1.trans h2).trans (List.Perm.append_right _ (swap23 _ _ _))
theorem srT_t {v : Bool} {ts : List Int} {word letter : Int} {n k : Nat} {x y : Int × List OG} (h : (letter != 0) = true) (hx : x = bif word != 0 then srW1 v ts word y else y) : srL1 v letter ((k : Int) == 0) (((k + 1 : Nat) : Int) == (n : Int)) x = srT v ts word letter n k y := by
  unfold srT
  rw [h, hx]
  rfl
theorem srT_f {v : Bool} {ts : List Int} {word letter : Int} {n k : Nat} {x y : Int × List OG} (h : (letter != 0) = false) (hx : x = bif word != 0 then srW1 v ts word y else y) : x = srT v ts word letter n k y := by
  unfold srT
  rw [h, hx]
  rfl
set_option maxHeartbeats 8000000 in
theorem f14_any (w : World) (A0 A : Option Addr) (cap0 cap : Nat) (dir word letter : Int) (ts : List Int) (ins : List RV) (hR : RdV w A0 dir ins) (hlen : ins.length ≤ 1000) (hgood : ∀ r ∈ ins, GdV ts r) (hT : RdT w [] A ts) :
    Calls Try.prog 14 [Value.slice A0 ins.length cap0, .slice A ts.length cap, .int .i64 word, .int .i64 letter].toArray w (Out w []
      (fun x : Sv × List RV => slOk x.1 x.2.length 6 (encV dir x.2) ∧ (∀ u ∈ x.2, u.Own ∨ u.Alias ins) ∧ x.2.map RV.told = mapI (srT (decide (2 ≤ dir)) ts word letter ins.length) 0 (ins.map RV.told))
      (fun x => slV x.1 x.2.length) (fun x => slH x.1 (encV dir x.2) 24 ++ hpV x.2)) := by
  refine enter (n := 42) Try.func14 rfl rfl rfl (Hp.refl w) ?_
  refine c_seq ?_
  -- region 0
  refine c_region ?_
  refine l_val (y_assign rfl) rfl rfl rfl ?_
  refine l_nil ?_
  refine q_then ?_
  refine c_seq ?_
  refine c_seq ?_
  -- region 1
  refine c_region ?_
  refine l_val (y_move rfl) rfl rfl rfl ?_
  refine l_val (y_len sl_34 rfl) rfl rfl rfl ?_
  refine l_val (y_move rfl) rfl rfl rfl ?_
  refine l_nil ?_
  refine q_then ?_
  refine c_block ?_
  refine c_loop (ι := Nat × Sv × List RV) (φ := fun x => x.1 ≤ ins.length ∧ slOk x.2.1 x.2.2.length 6 (encV dir x.2.2) ∧ (∀ u ∈ x.2.2, u.Own ∨ u.Alias ins) ∧ x.2.2.map RV.told = mapI (srT (decide (2 ≤ dir)) ts word letter ins.length) 0 ((ins.take x.1).map RV.told)) (L' := fun x => [(0, .slice A0 ins.length cap0), (1, .slice A ts.length cap), (2, .int .i64 word), (3, .int .i64 letter), (8, slV x.2.1 x.2.2.length), (11, .slice A0 ins.length cap0), (12, .int .i64 (ins.length : Int)), (13, .int .i64 (x.1 : Int))]) (H' := fun x => hpV x.2.2 ++ slH x.2.1 (encV dir x.2.2) 24) (fun x => ins.length - x.1) (0, none, []) ⟨Nat.zero_le _, ⟨rfl, rfl⟩, (fun r hr => by simp at hr), rfl⟩ ⟨rfl, rfl, rfl, rfl, rfl, rfl, rfl, rfl, trivial⟩ .refl ?_
  intro ⟨k, svU, us⟩ ⟨hk, hokU, hown, hus⟩
  simp only at hk hokU hown hus ⊢
  refine c_seq ?_
  -- region 2
  refine c_region ?_
  refine l_val (y_bin rfl rfl rfl rfl) rfl rfl rfl ?_
  refine l_nil ?_
  refine q_then ?_
  refine c_seq ?_
  refine c_cond rfl (fun hc14 => ?_) (fun hc14 => ?_)
  · skip
    have hk2 : k < ins.length := by simp only [decide_eq_true_eq] at hc14; omega
    obtain ⟨r, hr⟩ := some_at hk2
    have hgd := hgood r (List.mem_of_getElem? hr)
    obtain ⟨hcap, hRO, p, rfl, hpb, hpc⟩ := hR k r hr
    have hgl := hgd.len
    have hpsl : us.length = k := by have := congrArg List.length hus; simp [mapI_len] at this; omega
    refine c_skip ?_
    refine q_then ?_
    refine c_seq ?_
    refine c_block ?_
    refine c_seq ?_
    -- region 3
    refine c_region ?_
    refine l_val (y_move rfl) rfl rfl rfl ?_
    refine l_val (y_indexAddr es_34 rfl rfl hk2) rfl rfl rfl ?_
    refine l_val (y_oldLoadN (vs := RV.cells dir r) ld_24 rfl (by rw [block_add]; exact hpb) (by simp) rfl (fun j v hj => by rw [add_add]; exact hpc j v hj)) rfl rfl rfl ?_
    refine l_gives rfl rfl (g_alloc ze_24) rfl ?_
    intro b10 hb10
    refine l_val (y_assign rfl) rfl rfl rfl ?_
    refine l_does rfl rfl (g_storeN (vs := [_, _, _, _, _, _]) (cs' := [_, _, _, _, _, _]) sz_24 rfl rfl rfl rfl rfl rfl rfl .here) ?_
    intro _ _
    refine l_nil ?_
    refine q_then ?_
    refine c_seq ?_
    refine c_seq ?_
    -- region 4
    refine c_region ?_
    refine l_val (y_move rfl) rfl rfl rfl ?_
    refine l_val (y_bin rfl rfl rfl rfl) rfl rfl rfl ?_
    refine l_nil ?_
    refine q_then ?_
    refine c_cut (ι := RV) (φ := fun y => (y.Own ∨ y.Alias ins) ∧ y.told = bif word != 0 then srW1 (decide (2 ≤ dir)) ts word r.told else r.told) (L' := fun _ => [(0, .slice (some p) ins.length cap0), (1, .slice A ts.length cap), (2, .int .i64 word), (3, .int .i64 letter), (8, slV svU us.length), (11, .slice (some p) ins.length cap0), (12, .int .i64 (ins.length : Int)), (13, .int .i64 (k : Int)), (9, .int .i64 (k : Int)), (10, .pointer (some ⟨b10, 0, none⟩))]) (H' := fun y => (b10, uC dir y.ad 8 9 10 (.slice y.A y.gs.length y.cap), 24) :: ((hpV us ++ y.Hx) ++ slH svU (encV dir us) 24)) ?_ ?_
    · skip
      refine c_cond rfl (fun hc19 => ?_) (fun hc19 => ?_)
      · skip
        -- region 5
        refine c_region ?_
        refine l_val (y_loadN (vs := [_, _, _, _, _, _]) ld_24 rfl m0 rfl rfl) rfl rfl rfl ?_
        refine l_val (y_move rfl) rfl rfl rfl ?_
        refine l_val (y_move rfl) rfl rfl rfl ?_
        refine l_call ok_27 rfl rfl (out_new (fun w1 hw1 => f27_any w1 r.A A r.cap cap r.gs dir r.ad 8 9 10 word ts _ rfl (hRO.keep hw1) (hT.empty hw1) (fun g hg => (hgd.pos g hg).1) (by omega))) ?_
        intro svN hokN
        refine l_perm (.cons _ (swap23 _ _ _)) ?_
        have hGl : (r.gs.map (wO (decide (2 ≤ dir)) ts word (IntKind.i64.wrap (word.tdiv 2)))).length = r.gs.length := List.length_map _
        rw [slV_eq hokN, ← hGl]
        rw [← hGl] at hokN
        refine l_does rfl rfl (g_storeN (vs := [_, _, _, _, _, _]) (cs' := [_, _, _, _, _, _]) sz_24 rfl rfl rfl rfl rfl rfl rfl .here) ?_
        intro _ _
        refine l_nil ?_
        exact q_cut (⟨sumI (r.gs.map (wO (decide (2 ≤ dir)) ts word (IntKind.i64.wrap (word.tdiv 2)))), (r.gs.map (wO (decide (2 ≤ dir)) ts word (IntKind.i64.wrap (word.tdiv 2)))), svA svN, svC svN, slH svN (encO (r.gs.map (wO (decide (2 ≤ dir)) ts word (IntKind.i64.wrap (word.tdiv 2))))) 38⟩ : RV) ⟨.inl ⟨svN, rfl, rfl, rfl, hokN⟩, by rw [hc19]; rfl⟩ ⟨rfl, rfl, rfl, rfl, rfl, rfl, rfl, rfl, rfl, rfl, trivial⟩ (.cons .here .refl)
      · skip
        refine c_skip ?_
        refine q_perm (H' := (b10, uC dir r.ad 8 9 10 (.slice r.A r.gs.length r.cap), 24) :: ((hpV us ++ []) ++ slH svU (encV dir us) 24)) (by rw [List.append_nil]; exact .refl _) ?_
        exact q_cut (⟨r.ad, r.gs, r.A, r.cap, []⟩ : RV) ⟨.inr ⟨rfl, r, List.mem_of_getElem? hr, rfl, rfl, rfl⟩, by rw [hc19]; rfl⟩ ⟨rfl, rfl, rfl, rfl, rfl, rfl, rfl, rfl, rfl, rfl, trivial⟩ (.cons .here .refl)
    intro y ⟨hyo, hyt⟩
    have hyl : y.gs.length = r.gs.length := by have := congrArg (fun x : Int × List OG => x.2.length) hyt; revert this; cases word != 0 <;> simp [srW1, RV.told]
    have hyg : y.gs.map OG.gl = r.gs.map OG.gl := by have := congrArg (fun x : Int × List OG => x.2.map OG.gl) hyt; revert this; cases word != 0; exact fun h => h; exact fun h => h.trans (map_same (wO_gl _ _ _ _) _)
    have hys : ∃ ms, Shp (y.gs.map OG.gl) 0 ms := by rw [hyg]; exact shp_of hgd
    refine q_then ?_
    refine c_seq ?_
    refine c_seq ?_
    -- region 6
    refine c_region ?_
    refine l_val (y_move rfl) rfl rfl rfl ?_
    refine l_val (y_bin rfl rfl rfl rfl) rfl rfl rfl ?_
    refine l_nil ?_
    refine q_then ?_
    refine c_cut (ι := RV) (φ := fun z => (z.Own ∨ z.Alias ins) ∧ z.told = srT (decide (2 ≤ dir)) ts word letter ins.length k r.told) (L' := fun _ => [(0, .slice (some p) ins.length cap0), (1, .slice A ts.length cap), (2, .int .i64 word), (3, .int .i64 letter), (8, slV svU us.length), (11, .slice (some p) ins.length cap0), (12, .int .i64 (ins.length : Int)), (13, .int .i64 (k : Int)), (9, .int .i64 (k : Int)), (10, .pointer (some ⟨b10, 0, none⟩))]) (H' := fun z => (b10, uC dir z.ad 8 9 10 (.slice z.A z.gs.length z.cap), 24) :: ((hpV us ++ z.Hx) ++ slH svU (encV dir us) 24)) ?_ ?_
    · skip
      refine c_cond rfl (fun hc25 => ?_) (fun hc25 => ?_)
      · skip
        -- region 7
        refine c_region ?_
        refine l_val (y_loadN (vs := [_, _, _, _, _, _]) ld_24 rfl m0 rfl rfl) rfl rfl rfl ?_
        refine l_val (y_move rfl) rfl rfl rfl ?_
        refine l_val (y_move rfl) rfl rfl rfl ?_
        refine l_val (y_bin rfl rfl rfl rfl) rfl rfl rfl ?_
        refine l_val (y_move rfl) rfl rfl rfl ?_
        refine l_val (y_bin rfl rfl rfl (fitN (m := k + 1) (by omega) (by omega))) rfl rfl rfl ?_
        refine l_val (y_move rfl) rfl rfl rfl ?_
        refine l_val (y_len sl_34 rfl) rfl rfl rfl ?_
        refine l_val (y_bin rfl rfl rfl rfl) rfl rfl rfl ?_
        refine l_call ok_28 rfl rfl (out_new (fun w1 hw1 => f28_any w1 y.A y.cap y.gs dir y.ad 8 9 10 letter ((k : Int) == 0) (((k + 1 : Nat) : Int) == (ins.length : Int)) _ (msOf_ok hys) _ rfl (rd_or hw1 (.skip (.left .right)) hyo hR).2 (by omega))) ?_
        intro svM hokM
        refine l_perm (.cons _ (swap34 _ _ _ _)) ?_
        refine l_hsub (.cons .here (.left .refl)) ?_
        have hGl : (srL0 (decide (2 ≤ dir)) letter ((k : Int) == 0) (((k + 1 : Nat) : Int) == (ins.length : Int)) y.gs).length = y.gs.length := letL_len _ _ _ _ _ _ _ _
        have hGd : letL (hO (decide (2 ≤ dir)) (IntKind.i64.wrap (letter.tdiv 2))) (adO (IntKind.i64.wrap (letter.tdiv 2))) ((k : Int) == 0) (((k + 1 : Nat) : Int) == (ins.length : Int)) y.gs.length 0 (msOf (y.gs.map OG.gl)) y.gs = (srL0 (decide (2 ≤ dir)) letter ((k : Int) == 0) (((k + 1 : Nat) : Int) == (ins.length : Int)) y.gs) := rfl
        rw [hGd] at hokM ⊢
        rw [slV_eq hokM]
        rw [← hGl] at hokM ⊢
        refine l_does rfl rfl (g_storeN (vs := [_, _, _, _, _, _]) (cs' := [_, _, _, _, _, _]) sz_24 rfl rfl rfl rfl rfl rfl rfl .here) ?_
        intro _ _
        refine l_nil ?_
        exact q_cut (⟨sumI (srL0 (decide (2 ≤ dir)) letter ((k : Int) == 0) (((k + 1 : Nat) : Int) == (ins.length : Int)) y.gs), (srL0 (decide (2 ≤ dir)) letter ((k : Int) == 0) (((k + 1 : Nat) : Int) == (ins.length : Int)) y.gs), svA svM, svC svM, slH svM (encO (srL0 (decide (2 ≤ dir)) letter ((k : Int) == 0) (((k + 1 : Nat) : Int) == (ins.length : Int)) y.gs)) 38⟩ : RV) ⟨.inl ⟨svM, rfl, rfl, rfl, hokM⟩, srT_t hc25 hyt⟩ ⟨rfl, rfl, rfl, rfl, rfl, rfl, rfl, rfl, rfl, rfl, trivial⟩ (.cons .here .refl)
      · skip
        refine c_skip ?_
        exact q_cut y ⟨hyo, srT_f hc25 hyt⟩ ⟨rfl, rfl, rfl, rfl, rfl, rfl, rfl, rfl, rfl, rfl, trivial⟩ (.cons .here .refl)
    intro z ⟨hzo, hzt⟩
    refine q_then ?_
    -- region 8
    refine c_region ?_
    refine l_val (y_move rfl) rfl rfl rfl ?_
    refine l_val (y_loadN (vs := [_, _, _, _, _, _]) ld_24 rfl m0 rfl rfl) rfl rfl rfl ?_
    refine l_gives rfl rfl (g_buildSlice (cs := RV.cells dir z ++ []) sl_34 sz_24 ze_24 rfl rfl rfl rfl (by simp [Value.cells, RV.cells, uC]) rfl rfl) rfl ?_
    intro b38 hb38
    refine l_gives rfl rfl (g_appendT (by_ := 64) ([_, _] ++ (hpV us ++ z.Hx)) sl_34 inf_24 rfl rfl rfl rfl (by decide) rfl rfl hokU rfl m0 rfl (vC_all dir z) (by unfold maxLen; omega) (by omega)) rfl ?_
    intro sv1 hok1
    have e1 : encV dir us ++ RV.cells dir z = encV dir (us ++ [z]) := by simp [encV]
    have e2 : us.length + 1 = (us ++ [z]).length := by simp
    have e3 : hpV us ++ z.Hx = hpV (us ++ [z]) := by simp [hpV]
    rw [e1, e2] at hok1
    rw [e1, e2, e3]
    refine l_val (y_assign rfl) rfl rfl rfl ?_
    refine l_nil ?_
    refine q_block ?_
    refine q_then ?_
    -- region 9
    refine c_region ?_
    refine l_val (y_bin rfl rfl rfl (fitN (m := k + 1) (by omega) (by omega))) rfl rfl rfl ?_
    refine l_val (y_move rfl) rfl rfl rfl ?_
    refine l_nil ?_
    exact q_rnd (k + 1, sv1, us ++ [z]) ⟨hk2, hok1, or_snoc hown hzo, toldI_snoc hus hr hzt⟩ (by simp only; omega) ⟨rfl, rfl, rfl, rfl, rfl, rfl, rfl, rfl, trivial⟩ (.skip (.skip .refl))
  · skip
    rw [List.take_of_length_le (by simp only [decide_eq_false_iff_not] at hc14; omega)] at hus
    refine c_exit ?_
    refine q_then_exit ?_
    refine q_rnd_exit ?_
    refine q_block_exit ?_
    refine q_then ?_
    refine c_seq ?_
    -- region 10
    refine c_region ?_
    refine l_val (y_move rfl) rfl rfl rfl ?_
    refine l_val (y_assign rfl) rfl rfl rfl ?_
    refine l_nil ?_
    refine q_then ?_
    refine c_ret ?_
    refine q_perm List.perm_append_comm ?_
    exact body_ret (rs := [.tmp 8]) rfl (vs := [slV svU us.length]) ⟨rfl, trivial⟩ (out_end (svU, us) ⟨hokU, hown, hus⟩ rfl .refl) _ (.inr rfl)

end Go.Proofs.Ytbepljmeflndkaa
