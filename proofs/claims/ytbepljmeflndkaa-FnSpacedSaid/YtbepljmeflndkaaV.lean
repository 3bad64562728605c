/- The reference: WordRef, LetterRef. -/
import Derived.Test.YtbepljmeflndkaaE
import Derived.Test.YtbepljmeflndkaaS
import Derived.Test.YtbepljmeflndkaaU
namespace Go.Proofs.Ytbepljmeflndkaa
open Go.Eng
set_option maxRecDepth 100000
attribute [local irreducible] IntKind.wrap Int.tdiv Int.tmod Int.emod sm encO encG maxLen sepr

theorem wO_a {v : Bool} {ts : List Int} {s d : Int} {g : OG} (h : (g.ru == 1) = false) : wO v ts s d g = g := by unfold wO; rw [wnt_a h]; rfl
theorem wO_b {v : Bool} {ts : List Int} {s d : Int} {g : OG} (h : (g.gl == 1) = false) : wO v ts s d g = g := by unfold wO; rw [wnt_b h]; rfl
theorem wO_c {v : Bool} {ts : List Int} {s d c : Int} {g : OG} (hc : ts[g.cl.toNat]? = some c) (h : sepr c = false) : wO v ts s d g = g := by unfold wO; rw [wnt_c hc h]; rfl
theorem wO_step {v : Bool} {ts : List Int} {s d c : Int} {g y : OG} {M gs : List OG} {k : Nat} (hL : M.set k g = (gs.take k).map (wO v ts s d) ++ gs.drop k) (hg : gs[k]? = some g) (hc : ts[g.cl.toNat]? = some c) (h1 : (g.ru == 1) = true) (h2 : (g.gl == 1) = true)
    (h3 : sepr c = true) (hy : y = mvO v d (adO s g)) : M.set k y = (gs.take (k + 1)).map (wO v ts s d) ++ gs.drop (k + 1) := by
  have h := (map_step hL hg).2
  rw [List.set_set] at h
  rw [← h, hy]
  unfold wO
  rw [wnt_y hc h1 h2 h3]
  rfl
set_option maxHeartbeats 4000000 in
theorem f27_any (w : World) (A' A : Option Addr) (cap' cap : Nat) (gs : List OG) (dir ad up dn gp s : Int) (ts : List Int) (gv : Value) (hgv : gv = .slice A' gs.length cap') (hR : RdO w A' gs) (hT : RdT w [] A ts) (hC : ∀ g ∈ gs, 0 ≤ g.cl ∧ g.cl < ts.length) (hlen : gs.length ≤ 1000) :
    Calls Try.prog 27 [Value.agg (uC dir ad up dn gp gv).toArray, .slice A ts.length cap, .int .i64 s].toArray w (Out w [] (fun sv : Sv => slOk sv gs.length 10 (encO (gs.map (wO (decide (2 ≤ dir)) ts s (IntKind.i64.wrap (s.tdiv 2))))))
      (fun sv => .agg (uC dir (sumI (gs.map (wO (decide (2 ≤ dir)) ts s (IntKind.i64.wrap (s.tdiv 2))))) up dn gp (slV sv gs.length)).toArray) (fun sv => slH sv (encO (gs.map (wO (decide (2 ≤ dir)) ts s (IntKind.i64.wrap (s.tdiv 2))))) 38)) := by
  subst hgv
  refine enter (n := 52) Try.func27 rfl rfl rfl (Hp.refl w) ?_
  refine c_seq ?_
  -- region 0
  refine c_region ?_
  refine l_gives rfl rfl (g_box (vs := [_, _, _, _, _, _]) rfl rfl) rfl ?_
  intro b3 hb3
  refine l_gives rfl rfl (g_alloc ze_24) rfl ?_
  intro b6 hb6
  refine l_nil ?_
  refine q_then ?_
  refine c_seq ?_
  -- region 1
  refine c_region ?_
  refine l_val (y_loadN (vs := [_, _, _, _, _, _]) ld_24 rfl m1 rfl rfl) rfl rfl rfl ?_
  refine l_call ok_23 rfl rfl (out_new (fun w1 hw1 => f23_any w1 A' cap' gs dir ad up dn gp _ rfl (hR.keep hw1) hlen)) ?_
  intro sv hok
  refine l_does rfl rfl (g_storeN (vs := [_, _, _, _, _, _]) (cs' := [_, _, _, _, _, _]) sz_24 rfl rfl rfl rfl rfl (uC_one _ _ _ _ _ _ _) rfl (.there .here)) ?_
  intro _ _
  refine l_nil ?_
  refine q_then ?_
  refine c_seq ?_
  refine c_seq ?_
  -- region 2
  refine c_region ?_
  refine l_val (y_fieldAddr fo_24_5 rfl) rfl rfl rfl ?_
  refine l_val (y_load1 ld_22 rfl m1 rfl) rfl rfl rfl ?_
  refine l_val (y_lenSv sl_22 rfl hok.nil) rfl rfl rfl ?_
  refine l_val (y_move rfl) rfl rfl rfl ?_
  refine l_nil ?_
  refine q_then ?_
  refine c_block ?_
  refine c_loop (ι := Nat × List OG) (φ := fun x => x.1 ≤ gs.length ∧ x.2 = (gs.take x.1).map (wO (decide (2 ≤ dir)) ts s (IntKind.i64.wrap (s.tdiv 2))) ++ gs.drop x.1) (L' := fun x => [(1, .slice A ts.length cap), (2, .int .i64 s), (3, .pointer (some ⟨b3, 0, none⟩)), (6, .pointer (some ⟨b6, 0, none⟩)), (12, slV sv gs.length), (13, .int .i64 (gs.length : Int)), (14, .int .i64 (x.1 : Int))]) (H' := fun x => (b3, uC dir ad up dn gp (slV sv gs.length), 24) :: (b6, [.int .i64 0, .int .i64 0, .int .i64 0, .int .i64 0, .int .i64 0, .slice none 0 0], 24) :: slH sv (encO x.2) 38) (fun x => gs.length - x.1) (0, gs) ⟨Nat.zero_le _, rfl⟩ ⟨rfl, rfl, rfl, rfl, rfl, rfl, rfl, trivial⟩ (.cons (.there .here) (.cons .here .refl)) ?_
  intro ⟨k, L⟩ ⟨hk, hL⟩
  simp only at hk hL ⊢
  refine c_seq ?_
  -- region 3
  refine c_region ?_
  refine l_val (y_bin rfl rfl rfl rfl) rfl rfl rfl ?_
  refine l_nil ?_
  refine q_then ?_
  refine c_seq ?_
  refine c_cond rfl (fun hc15 => ?_) (fun hc15 => ?_)
  · skip
    have hk2 : k < gs.length := by simp only [decide_eq_true_eq] at hc15; omega
    obtain ⟨g, hg⟩ := some_at hk2
    have hcl := hC g (List.mem_of_getElem? hg)
    obtain ⟨c, hc⟩ := some_at (l := ts) (k := g.cl.toNat) (by omega)
    obtain ⟨p, rfl, hpb, hpS, hpc⟩ := hT _ c hc
    obtain ⟨M, hkM, rfl⟩ : ∃ M, k < M.length ∧ L = M.set k g := ⟨L, open_set (map_step hL hg).1⟩
    obtain _ | ⟨bG, sp, cap1⟩ := sv
    · exact absurd hok.2 (by simp only; omega)
    refine c_skip ?_
    refine q_then ?_
    refine c_seq ?_
    refine c_block ?_
    refine c_seq ?_
    -- region 4
    refine c_region ?_
    refine l_val (y_move rfl) rfl rfl rfl ?_
    refine l_val (y_indexAddrOwn es_22 rfl rfl hk2) rfl rfl rfl ?_
    refine l_val (y_loadN (vs := OG.cells g) ld_38 rfl m2 (encO_at (set_get hkM)) rfl) rfl rfl rfl ?_
    refine l_gives rfl rfl (g_alloc ze_38) rfl ?_
    intro b8 hb8
    refine l_val (y_assign rfl) rfl rfl rfl ?_
    refine l_does rfl rfl (g_storeN (vs := [_, _, _, _, _, _, _, _, _, _]) (cs' := [_, _, _, _, _, _, _, _, _, _]) sz_38 rfl rfl rfl rfl rfl rfl rfl .here) ?_
    intro _ _
    refine l_nil ?_
    refine q_then ?_
    refine c_seq ?_
    -- region 5
    refine c_region ?_
    refine l_val (y_fieldAddr fo_38_8 rfl) rfl rfl rfl ?_
    refine l_val (y_load1 ld_3 rfl m0 rfl) rfl rfl rfl ?_
    refine l_val (y_bin rfl rfl rfl rfl) rfl rfl rfl ?_
    refine l_val (y_move rfl) rfl rfl rfl ?_
    refine l_split (t := 22) rfl rfl (fun hs22 => ?_) (fun hs22 => ?_)
    · skip
      refine l_want rfl rfl ?_
      refine l_val (y_fieldAddr fo_38_9 rfl) rfl rfl rfl ?_
      refine l_want rfl rfl ?_
      refine l_val (y_load1 ld_3 rfl m0 rfl) rfl rfl rfl ?_
      refine l_want rfl rfl ?_
      refine l_val (y_bin rfl rfl rfl rfl) rfl rfl rfl ?_
      refine l_val (y_pick rfl rfl rfl) rfl rfl rfl ?_
      refine l_val (y_move rfl) rfl rfl rfl ?_
      refine l_split (t := 27) rfl rfl (fun hs27 => ?_) (fun hs27 => ?_)
      · skip
        refine l_want rfl rfl ?_
        refine l_val (y_move rfl) rfl rfl rfl ?_
        refine l_want rfl rfl ?_
        refine l_val (y_fieldAddr fo_38_7 rfl) rfl rfl rfl ?_
        refine l_want rfl rfl ?_
        refine l_val (y_load1 ld_3 rfl m0 rfl) rfl rfl rfl ?_
        refine l_want rfl rfl ?_
        refine l_val (y_indexAddr es_29 rfl (someI hcl.1) (by omega)) rfl rfl rfl ?_
        refine l_want rfl rfl ?_
        refine l_val (y_oldLoad1 ld_21 rfl (by rw [block_add]; exact hpb) (by rw [block_add]; exact hpS) (by rw [Nat.mul_one]; exact hpc)) rfl rfl rfl ?_
        refine l_want rfl rfl ?_
        refine l_call ok_33 rfl rfl (fun w1 hw1 => out_plain hw1 (f33_any w1 c)) ?_
        intro _ _
        refine l_val (y_pick rfl rfl rfl) rfl rfl rfl ?_
        refine l_nil ?_
        refine q_then ?_
        refine c_cond rfl (fun hc34 => ?_) (fun hc34 => ?_)
        · skip
          refine c_seq ?_
          -- region 6
          refine c_region ?_
          refine l_val (y_fieldAddr fo_24_5 rfl) rfl rfl rfl ?_
          refine l_val (y_load1 ld_22 rfl m1 rfl) rfl rfl rfl ?_
          refine l_val (y_move rfl) rfl rfl rfl ?_
          refine l_val (y_indexAddrOwn es_22 rfl rfl hk2) rfl rfl rfl ?_
          refine l_val (y_fieldAddr fo_38_4 rfl) rfl rfl rfl ?_
          refine l_val (y_load1 ld_3 rfl m3 (oget hkM rfl)) rfl rfl rfl ?_
          refine l_val (y_move rfl) rfl rfl rfl ?_
          refine l_val (y_bin rfl rfl rfl rfl) rfl rfl rfl ?_
          refine l_val (y_indexAddrOwn es_22 rfl rfl hk2) rfl rfl rfl ?_
          refine l_val (y_fieldAddr fo_38_4 rfl) rfl rfl rfl ?_
          refine l_does rfl rfl (g_store1 (cs' := encO ((M).set k ({ g with ad := IntKind.i64.wrap ((g).ad + s) } : OG)) ++ sp) sz_3 rfl rfl rfl (ofit hkM rfl) rfl (oset (x := g) (y := { g with ad := IntKind.i64.wrap ((g).ad + s) }) hkM rfl rfl) (.there (.there (.there .here)))) ?_
          intro _ _
          refine l_nil ?_
          refine q_then ?_
          -- region 7
          refine c_region ?_
          refine l_val (y_move rfl) rfl rfl rfl ?_
          refine l_val (y_move rfl) rfl rfl rfl ?_
          refine l_val (y_quo rfl rfl (by decide) rfl) rfl rfl rfl ?_
          refine l_call ok_34 rfl rfl (out_call (.cons (.there .here) (.cons (.there (.there .here)) .nil)) (fun w1 hw1 _ => f34_any w1 b3 bG cap1 gs.length k sp dir ad up dn gp (IntKind.i64.wrap (s.tdiv 2)) (decide (2 ≤ dir)) rfl M ({ g with ad := IntKind.i64.wrap ((g).ad + s) } : OG) hkM hk2 hw1)) ?_
          intro _ _
          refine l_nil ?_
          refine q_block ?_
          refine q_then ?_
          -- region 8
          refine c_region ?_
          refine l_val (y_bin rfl rfl rfl (fitN (m := k + 1) (by omega) (by omega))) rfl rfl rfl ?_
          refine l_val (y_move rfl) rfl rfl rfl ?_
          refine l_nil ?_
          exact q_rnd (k + 1, M.set k (mvO (decide (2 ≤ dir)) (IntKind.i64.wrap (s.tdiv 2)) ({ g with ad := IntKind.i64.wrap ((g).ad + s) } : OG))) ⟨hk2, wO_step hL hg hc hs22 hs27 hc34 rfl⟩ (by simp only; omega) ⟨rfl, rfl, rfl, rfl, rfl, rfl, rfl, trivial⟩ (.cons .here (.cons (.there (.there .here)) (.cons .here .nil)))
        · skip
          refine c_skip ?_
          refine q_block ?_
          refine q_then ?_
          -- region 8
          refine c_region ?_
          refine l_val (y_bin rfl rfl rfl (fitN (m := k + 1) (by omega) (by omega))) rfl rfl rfl ?_
          refine l_val (y_move rfl) rfl rfl rfl ?_
          refine l_nil ?_
          exact q_rnd (k + 1, M.set k g) ⟨hk2, map_keep hL hg (by first | exact wO_a hs22 | exact wO_b hs27 | exact wO_c hc hc34)⟩ (by simp only; omega) ⟨rfl, rfl, rfl, rfl, rfl, rfl, rfl, trivial⟩ (.cons (.there .here) (.cons (.there .here) (.cons (.there .here) .nil)))
      · skip
        refine l_not rfl rfl rfl rfl ?_
        refine l_not rfl rfl rfl rfl ?_
        refine l_not rfl rfl rfl rfl ?_
        refine l_not rfl rfl rfl rfl ?_
        refine l_not rfl rfl rfl rfl ?_
        refine l_not rfl rfl rfl rfl ?_
        refine l_val (y_pick rfl rfl rfl) rfl rfl rfl ?_
        refine l_nil ?_
        refine q_then ?_
        refine c_false rfl rfl ?_
        refine c_skip ?_
        refine q_block ?_
        refine q_then ?_
        -- region 8
        refine c_region ?_
        refine l_val (y_bin rfl rfl rfl (fitN (m := k + 1) (by omega) (by omega))) rfl rfl rfl ?_
        refine l_val (y_move rfl) rfl rfl rfl ?_
        refine l_nil ?_
        exact q_rnd (k + 1, M.set k g) ⟨hk2, map_keep hL hg (by first | exact wO_a hs22 | exact wO_b hs27 | exact wO_c hc hc34)⟩ (by simp only; omega) ⟨rfl, rfl, rfl, rfl, rfl, rfl, rfl, trivial⟩ (.cons (.there .here) (.cons (.there .here) (.cons (.there .here) .nil)))
    · skip
      refine l_not rfl rfl rfl rfl ?_
      refine l_not rfl rfl rfl rfl ?_
      refine l_not rfl rfl rfl rfl ?_
      refine l_val (y_pick rfl rfl rfl) rfl rfl rfl ?_
      refine l_val (y_move rfl) rfl rfl rfl ?_
      refine l_not rfl rfl rfl rfl ?_
      refine l_not rfl rfl rfl rfl ?_
      refine l_not rfl rfl rfl rfl ?_
      refine l_not rfl rfl rfl rfl ?_
      refine l_not rfl rfl rfl rfl ?_
      refine l_not rfl rfl rfl rfl ?_
      refine l_val (y_pick rfl rfl rfl) rfl rfl rfl ?_
      refine l_nil ?_
      refine q_then ?_
      refine c_false rfl rfl ?_
      refine c_skip ?_
      refine q_block ?_
      refine q_then ?_
      -- region 8
      refine c_region ?_
      refine l_val (y_bin rfl rfl rfl (fitN (m := k + 1) (by omega) (by omega))) rfl rfl rfl ?_
      refine l_val (y_move rfl) rfl rfl rfl ?_
      refine l_nil ?_
      exact q_rnd (k + 1, M.set k g) ⟨hk2, map_keep hL hg (by first | exact wO_a hs22 | exact wO_b hs27 | exact wO_c hc hc34)⟩ (by simp only; omega) ⟨rfl, rfl, rfl, rfl, rfl, rfl, rfl, trivial⟩ (.cons (.there .here) (.cons (.there .here) (.cons (.there .here) .nil)))
  · skip
    have hLl := map_len hL
    have hL2 := map_end hL (by simp only [decide_eq_false_iff_not] at hc15; omega)
    obtain ⟨G, hG⟩ : ∃ G, G = gs.map (wO (decide (2 ≤ dir)) ts s (IntKind.i64.wrap (s.tdiv 2))) := ⟨_, rfl⟩
    rw [← hG] at hL2 ⊢
    subst hL2
    have hok := slOk_O hok hLl
    rw [← hLl] at hok ⊢
    refine c_exit ?_
    refine q_then_exit ?_
    refine q_rnd_exit ?_
    refine q_block_exit ?_
    refine q_then ?_
    refine c_seq ?_
    -- region 9
    refine c_region ?_
    refine l_val (y_loadN (vs := [_, _, _, _, _, _]) ld_24 rfl m0 rfl rfl) rfl rfl rfl ?_
    refine l_call ok_10 rfl rfl (out_new (fun w1 hw1 => f10_any w1 (svA sv) (svC sv) L dir ad up dn gp _ (slV_eq hok) (RdO_sv hw1 (.skip (.skip .refl)) hok) (by omega))) ?_
    intro sv2 hok2
    refine l_sub (L' := [(6, .pointer (some ⟨b6, 0, none⟩)), (51, .agg (uC dir (sumI L) up dn gp (slV sv2 L.length)).toArray)]) (H' := (b6, [.int .i64 0, .int .i64 0, .int .i64 0, .int .i64 0, .int .i64 0, .slice none 0 0], 24) :: slH sv2 (encO L) 38) ⟨rfl, rfl, trivial⟩ (.cons (.there .here) (.skip .right)) ?_
    refine l_does rfl rfl (g_storeN (vs := [_, _, _, _, _, _]) (cs' := [_, _, _, _, _, _]) sz_24 rfl rfl rfl rfl rfl (uC_one _ _ _ _ _ _ _) rfl .here) ?_
    intro _ _
    refine l_nil ?_
    refine q_then ?_
    refine c_ret ?_
    exact body_ret (rs := [.cell 6 24]) rfl (vs := [.agg (uC dir (sumI L) up dn gp (slV sv2 L.length)).toArray]) ⟨⟨b6, 0, _, _, rfl, m0, .inr ⟨6, _, ld_24, rfl, rfl, rfl⟩⟩, trivial⟩ (out_end sv2 hok2 rfl (.skip .refl)) _ (.inr rfl)

set_option maxHeartbeats 4000000 in
theorem f28_any (w : World) (A' : Option Addr) (cap' : Nat) (gs : List OG) (dir ad up dn gp s : Int) (st en : Bool) (ms : List Nat) (hms : Shp (gs.map OG.gl) 0 ms) (gv : Value) (hgv : gv = .slice A' gs.length cap') (hR : RdO w A' gs) (hlen : gs.length ≤ 1000) :
    Calls Try.prog 28 [Value.agg (uC dir ad up dn gp gv).toArray, .int .i64 s, .bool st, .bool en].toArray w (Out w [] (fun sv : Sv => slOk sv gs.length 10 (encO (letL (hO (decide (2 ≤ dir)) (IntKind.i64.wrap (s.tdiv 2))) (adO (IntKind.i64.wrap (s.tdiv 2))) st en gs.length 0 ms gs)))
      (fun sv => .agg (uC dir (sumI (letL (hO (decide (2 ≤ dir)) (IntKind.i64.wrap (s.tdiv 2))) (adO (IntKind.i64.wrap (s.tdiv 2))) st en gs.length 0 ms gs)) up dn gp (slV sv gs.length)).toArray) (fun sv => slH sv (encO (letL (hO (decide (2 ≤ dir)) (IntKind.i64.wrap (s.tdiv 2))) (adO (IntKind.i64.wrap (s.tdiv 2))) st en gs.length 0 ms gs)) 38)) := by
  subst hgv
  refine enter (n := 75) Try.func28 rfl rfl rfl (Hp.refl w) ?_
  refine c_seq ?_
  -- region 0
  refine c_region ?_
  refine l_gives rfl rfl (g_box (vs := [_, _, _, _, _, _]) rfl rfl) rfl ?_
  intro b4 hb4
  refine l_gives rfl rfl (g_alloc ze_24) rfl ?_
  intro b8 hb8
  refine l_nil ?_
  refine q_then ?_
  refine c_seq ?_
  -- region 1
  refine c_region ?_
  refine l_val (y_loadN (vs := [_, _, _, _, _, _]) ld_24 rfl m1 rfl rfl) rfl rfl rfl ?_
  refine l_call ok_23 rfl rfl (out_new (fun w1 hw1 => f23_any w1 A' cap' gs dir ad up dn gp _ rfl (hR.keep hw1) hlen)) ?_
  intro sv hok
  refine l_does rfl rfl (g_storeN (vs := [_, _, _, _, _, _]) (cs' := [_, _, _, _, _, _]) sz_24 rfl rfl rfl rfl rfl (uC_one _ _ _ _ _ _ _) rfl (.there .here)) ?_
  intro _ _
  refine l_nil ?_
  refine q_then ?_
  refine c_seq ?_
  refine c_seq ?_
  -- region 2
  refine c_region ?_
  refine l_val (y_assign rfl) rfl rfl rfl ?_
  refine l_nil ?_
  refine q_then ?_
  refine c_block ?_
  refine c_loop (ι := Nat × List Nat × List OG) (φ := fun x => LetSt OG.gl (hO (decide (2 ≤ dir)) (IntKind.i64.wrap (s.tdiv 2))) (adO (IntKind.i64.wrap (s.tdiv 2))) st en gs (letL (hO (decide (2 ≤ dir)) (IntKind.i64.wrap (s.tdiv 2))) (adO (IntKind.i64.wrap (s.tdiv 2))) st en gs.length 0 ms gs) x.1 x.2.1 x.2.2) (L' := fun x => [(1, .int .i64 s), (2, .bool st), (3, .bool en), (4, .pointer (some ⟨b4, 0, none⟩)), (8, .pointer (some ⟨b8, 0, none⟩)), (9, .int .i64 (x.1 : Int))]) (H' := fun x => (b4, uC dir ad up dn gp (slV sv gs.length), 24) :: (b8, [.int .i64 0, .int .i64 0, .int .i64 0, .int .i64 0, .int .i64 0, .slice none 0 0], 24) :: slH sv (encO x.2.2) 38) (fun x => x.2.1.length) (0, ms, gs) ⟨rfl, rfl, hms, rfl⟩ ⟨rfl, rfl, rfl, rfl, rfl, rfl, trivial⟩ (.cons (.there .here) (.cons .here .refl)) ?_
  intro ⟨i, ms2, L⟩ hL
  simp only at hL ⊢
  refine c_seq ?_
  refine c_seq ?_
  -- region 3
  refine c_region ?_
  refine l_val (y_move rfl) rfl rfl rfl ?_
  refine l_val (y_fieldAddr fo_24_5 rfl) rfl rfl rfl ?_
  refine l_val (y_load1 ld_22 rfl m0 rfl) rfl rfl rfl ?_
  refine l_val (y_lenSv sl_22 rfl hok.nil) rfl rfl rfl ?_
  refine l_val (y_bin rfl rfl rfl rfl) rfl rfl rfl ?_
  refine l_nil ?_
  refine q_then ?_
  refine c_cond rfl (fun hc17 => ?_) (fun hc17 => ?_)
  · skip
    have hk2 : i < gs.length := by simp only [decide_eq_true_eq] at hc17; omega
    obtain ⟨m, r, rfl, hm, hm1, him, hsh2⟩ := sh_step hL.shp (by rw [List.length_map]; exact hk2)
    rw [List.length_map] at him
    obtain ⟨g, hg, hgm⟩ := at_map hL.shape hm
    have hLl := hL.len
    obtain ⟨M, hkM, rfl⟩ : ∃ M, i < M.length ∧ L = M.set i g := ⟨L, open_set hg⟩
    obtain _ | ⟨bG, sp, cap1⟩ := sv
    · exact absurd hok.2 (by simp only; omega)
    refine c_skip ?_
    refine q_then ?_
    refine c_block ?_
    refine c_seq ?_
    -- region 4
    refine c_region ?_
    refine l_val (y_fieldAddr fo_24_5 rfl) rfl rfl rfl ?_
    refine l_val (y_load1 ld_22 rfl m0 rfl) rfl rfl rfl ?_
    refine l_val (y_move rfl) rfl rfl rfl ?_
    refine l_val (y_indexAddrOwn es_22 rfl rfl hk2) rfl rfl rfl ?_
    refine l_val (y_fieldAddr fo_38_9 rfl) rfl rfl rfl ?_
    refine l_val (y_load1 ld_3 rfl m2 (oget hkM rfl)) rfl rfl rfl ?_
    refine l_val (y_assign rfl) rfl rfl rfl ?_
    refine l_nil ?_
    refine q_then ?_
    refine c_seq ?_
    refine c_seq ?_
    -- region 5
    refine c_cut (ι := Unit) (φ := fun _ => True) (L' := fun _ => [(1, .int .i64 s), (2, .bool st), (3, .bool en), (4, .pointer (some ⟨b4, 0, none⟩)), (8, .pointer (some ⟨b8, 0, none⟩)), (9, .int .i64 (i : Int)), (10, .int .i64 g.gl), (29, .bool (decide (0 < i) || !st))]) (H' := fun _ => (b4, uC dir ad up dn gp (.slice (some ⟨bG, 0, none⟩) gs.length cap1), 24) :: (b8, [.int .i64 0, .int .i64 0, .int .i64 0, .int .i64 0, .int .i64 0, .slice none 0 0], 24) :: (bG, encO (M.set i g) ++ sp, 38) :: []) ?_ ?_
    · skip
      refine c_region ?_
      refine l_val (y_move rfl) rfl rfl rfl ?_
      refine l_val (y_bin rfl rfl rfl rfl) rfl rfl rfl ?_
      refine l_val (y_move rfl) rfl rfl rfl ?_
      refine l_split (t := 26) rfl rfl (fun hs26 => ?_) (fun hs26 => ?_)
      · skip
        refine l_not rfl rfl rfl rfl ?_
        refine l_not rfl rfl rfl rfl ?_
        refine l_val (y_pick rfl rfl rfl) rfl rfl rfl ?_
        refine l_nil ?_
        exact q_cut () trivial ⟨rfl, rfl, rfl, rfl, rfl, rfl, rfl, (by first | exact someB (orT hs26) | exact someB (orF hs26)), trivial⟩ (.cons .here (.cons .here (.cons .here .nil)))
      · skip
        refine l_want rfl rfl ?_
        refine l_val (y_move rfl) rfl rfl rfl ?_
        refine l_want rfl rfl ?_
        refine l_val (y_not rfl) rfl rfl rfl ?_
        refine l_val (y_pick rfl rfl rfl) rfl rfl rfl ?_
        refine l_nil ?_
        exact q_cut () trivial ⟨rfl, rfl, rfl, rfl, rfl, rfl, rfl, (by first | exact someB (orT hs26) | exact someB (orF hs26)), trivial⟩ (.cons .here (.cons .here (.cons .here .nil)))
    intro _ _
    refine q_then ?_
    refine c_cut (ι := List OG) (φ := fun K => K = updB (decide (0 < i) || !st) (hO (decide (2 ≤ dir)) (IntKind.i64.wrap (s.tdiv 2))) (M.set i g) i) (L' := fun _ => [(1, .int .i64 s), (2, .bool st), (3, .bool en), (4, .pointer (some ⟨b4, 0, none⟩)), (8, .pointer (some ⟨b8, 0, none⟩)), (9, .int .i64 (i : Int)), (10, .int .i64 g.gl)]) (H' := fun K => (b4, uC dir ad up dn gp (.slice (some ⟨bG, 0, none⟩) gs.length cap1), 24) :: (b8, [.int .i64 0, .int .i64 0, .int .i64 0, .int .i64 0, .int .i64 0, .slice none 0 0], 24) :: (bG, encO (K) ++ sp, 38) :: []) ?_ ?_
    · skip
      refine c_cond rfl (fun hc29 => ?_) (fun hc29 => ?_)
      · skip
        refine c_seq ?_
        -- region 6
        refine c_region ?_
        refine l_val (y_fieldAddr fo_24_5 rfl) rfl rfl rfl ?_
        refine l_val (y_load1 ld_22 rfl m0 rfl) rfl rfl rfl ?_
        refine l_val (y_move rfl) rfl rfl rfl ?_
        refine l_val (y_indexAddrOwn es_22 rfl rfl hk2) rfl rfl rfl ?_
        refine l_val (y_fieldAddr fo_38_4 rfl) rfl rfl rfl ?_
        refine l_val (y_load1 ld_3 rfl m2 (oget hkM rfl)) rfl rfl rfl ?_
        refine l_val (y_move rfl) rfl rfl rfl ?_
        refine l_val (y_quo rfl rfl (by decide) rfl) rfl rfl rfl ?_
        refine l_val (y_bin rfl rfl rfl rfl) rfl rfl rfl ?_
        refine l_val (y_indexAddrOwn es_22 rfl rfl hk2) rfl rfl rfl ?_
        refine l_val (y_fieldAddr fo_38_4 rfl) rfl rfl rfl ?_
        refine l_does rfl rfl (g_store1 (cs' := encO ((M).set i ({ g with ad := IntKind.i64.wrap ((g).ad + (IntKind.i64.wrap (s.tdiv 2))) } : OG)) ++ sp) sz_3 rfl rfl rfl (ofit hkM rfl) rfl (oset (x := g) (y := { g with ad := IntKind.i64.wrap ((g).ad + (IntKind.i64.wrap (s.tdiv 2))) }) hkM rfl rfl) (.there (.there .here))) ?_
        intro _ _
        refine l_nil ?_
        refine q_then ?_
        -- region 7
        refine c_region ?_
        refine l_val (y_move rfl) rfl rfl rfl ?_
        refine l_val (y_move rfl) rfl rfl rfl ?_
        refine l_val (y_quo rfl rfl (by decide) rfl) rfl rfl rfl ?_
        refine l_call ok_34 rfl rfl (out_call (.cons .here (.cons (.there .here) .nil)) (fun w1 hw1 _ => f34_any w1 b4 bG cap1 gs.length i sp dir ad up dn gp (IntKind.i64.wrap (s.tdiv 2)) (decide (2 ≤ dir)) rfl M ({ g with ad := IntKind.i64.wrap ((g).ad + (IntKind.i64.wrap (s.tdiv 2))) } : OG) hkM hk2 hw1)) ?_
        intro _ _
        refine l_nil ?_
        exact q_cut (M.set i (mvO (decide (2 ≤ dir)) (IntKind.i64.wrap (s.tdiv 2)) ({ g with ad := IntKind.i64.wrap ((g).ad + (IntKind.i64.wrap (s.tdiv 2))) } : OG))) (updB_t hc29 hkM rfl) ⟨rfl, rfl, rfl, rfl, rfl, rfl, rfl, trivial⟩ (.cons .here (.cons (.there .here) (.cons .here .nil)))
      · skip
        refine c_skip ?_
        exact q_cut (M.set i g) (updB_f hc29) ⟨rfl, rfl, rfl, rfl, rfl, rfl, rfl, trivial⟩ (.cons .here (.cons .here (.cons .here .nil)))
    intro K hK
    obtain ⟨y, hy⟩ := some_at (l := K) (k := i + m - 1) (by rw [hK, updB_len]; omega)
    obtain ⟨K2, hkK, rfl⟩ : ∃ M, i + m - 1 < M.length ∧ K = M.set (i + m - 1) y := ⟨K, open_set hy⟩
    refine q_then ?_
    refine c_seq ?_
    refine c_seq ?_
    -- region 8
    refine c_cut (ι := Unit) (φ := fun _ => True) (L' := fun _ => [(1, .int .i64 s), (2, .bool st), (3, .bool en), (4, .pointer (some ⟨b4, 0, none⟩)), (8, .pointer (some ⟨b8, 0, none⟩)), (9, .int .i64 (i : Int)), (10, .int .i64 g.gl), (55, .bool (decide (i + m < gs.length) || !en))]) (H' := fun _ => (b4, uC dir ad up dn gp (.slice (some ⟨bG, 0, none⟩) gs.length cap1), 24) :: (b8, [.int .i64 0, .int .i64 0, .int .i64 0, .int .i64 0, .int .i64 0, .slice none 0 0], 24) :: (bG, encO (K2.set (i + m - 1) y) ++ sp, 38) :: []) ?_ ?_
    · skip
      refine c_region ?_
      refine l_val (y_move rfl) rfl rfl rfl ?_
      refine l_val (y_move rfl) rfl rfl rfl ?_
      refine l_val (y_bin rfl rfl rfl (fitN (m := i + m) (by omega) (by omega))) rfl rfl rfl ?_
      refine l_val (y_fieldAddr fo_24_5 rfl) rfl rfl rfl ?_
      refine l_val (y_load1 ld_22 rfl m0 rfl) rfl rfl rfl ?_
      refine l_val (y_lenSv (sv := some (bG, sp, cap1)) sl_22 rfl hok.nil) rfl rfl rfl ?_
      refine l_val (y_bin rfl rfl rfl rfl) rfl rfl rfl ?_
      refine l_val (y_move rfl) rfl rfl rfl ?_
      refine l_split (t := 52) rfl rfl (fun hs52 => ?_) (fun hs52 => ?_)
      · skip
        refine l_not rfl rfl rfl rfl ?_
        refine l_not rfl rfl rfl rfl ?_
        refine l_val (y_pick rfl rfl rfl) rfl rfl rfl ?_
        refine l_nil ?_
        exact q_cut () trivial ⟨rfl, rfl, rfl, rfl, rfl, rfl, rfl, (by first | exact someB (endT hs52 ltN) | exact someB (endF hs52 ltN)), trivial⟩ (.cons .here (.cons .here (.cons .here .nil)))
      · skip
        refine l_want rfl rfl ?_
        refine l_val (y_move rfl) rfl rfl rfl ?_
        refine l_want rfl rfl ?_
        refine l_val (y_not rfl) rfl rfl rfl ?_
        refine l_val (y_pick rfl rfl rfl) rfl rfl rfl ?_
        refine l_nil ?_
        exact q_cut () trivial ⟨rfl, rfl, rfl, rfl, rfl, rfl, rfl, (by first | exact someB (endT hs52 ltN) | exact someB (endF hs52 ltN)), trivial⟩ (.cons .here (.cons .here (.cons .here .nil)))
    intro _ _
    refine q_then ?_
    refine c_cut (ι := List OG) (φ := fun K3 => K3 = updB (decide (i + m < gs.length) || !en) (adO (IntKind.i64.wrap (s.tdiv 2))) (K2.set (i + m - 1) y) (i + m - 1)) (L' := fun _ => [(1, .int .i64 s), (2, .bool st), (3, .bool en), (4, .pointer (some ⟨b4, 0, none⟩)), (8, .pointer (some ⟨b8, 0, none⟩)), (9, .int .i64 (i : Int)), (10, .int .i64 g.gl)]) (H' := fun K3 => (b4, uC dir ad up dn gp (.slice (some ⟨bG, 0, none⟩) gs.length cap1), 24) :: (b8, [.int .i64 0, .int .i64 0, .int .i64 0, .int .i64 0, .int .i64 0, .slice none 0 0], 24) :: (bG, encO (K3) ++ sp, 38) :: []) ?_ ?_
    · skip
      refine c_cond rfl (fun hc55 => ?_) (fun hc55 => ?_)
      · skip
        -- region 9
        refine c_region ?_
        refine l_val (y_fieldAddr fo_24_5 rfl) rfl rfl rfl ?_
        refine l_val (y_load1 ld_22 rfl m0 rfl) rfl rfl rfl ?_
        refine l_val (y_move rfl) rfl rfl rfl ?_
        refine l_val (y_move rfl) rfl rfl rfl ?_
        refine l_val (y_bin rfl rfl rfl (fitN (m := i + m) (by omega) (by omega))) rfl rfl rfl ?_
        refine l_val (y_bin rfl rfl rfl (fitN (m := i + m - 1) (by omega) (by omega))) rfl rfl rfl ?_
        refine l_val (y_indexAddrOwn es_22 rfl rfl (by omega)) rfl rfl rfl ?_
        refine l_val (y_fieldAddr fo_38_4 rfl) rfl rfl rfl ?_
        refine l_val (y_load1 ld_3 rfl m2 (oget hkK rfl)) rfl rfl rfl ?_
        refine l_val (y_move rfl) rfl rfl rfl ?_
        refine l_val (y_quo rfl rfl (by decide) rfl) rfl rfl rfl ?_
        refine l_val (y_bin rfl rfl rfl rfl) rfl rfl rfl ?_
        refine l_val (y_indexAddrOwn es_22 rfl rfl (by omega)) rfl rfl rfl ?_
        refine l_val (y_fieldAddr fo_38_4 rfl) rfl rfl rfl ?_
        refine l_does rfl rfl (g_store1 (cs' := encO ((K2).set (i + m - 1) ({ y with ad := IntKind.i64.wrap ((y).ad + (IntKind.i64.wrap (s.tdiv 2))) } : OG)) ++ sp) sz_3 rfl rfl rfl (ofit hkK rfl) rfl (oset (x := y) (y := { y with ad := IntKind.i64.wrap ((y).ad + (IntKind.i64.wrap (s.tdiv 2))) }) hkK rfl rfl) (.there (.there .here))) ?_
        intro _ _
        refine l_nil ?_
        exact q_cut (K2.set (i + m - 1) ({ y with ad := IntKind.i64.wrap ((y).ad + (IntKind.i64.wrap (s.tdiv 2))) })) (updB_t hc55 hkK rfl) ⟨rfl, rfl, rfl, rfl, rfl, rfl, rfl, trivial⟩ (.cons .here (.cons .here (.cons .here .nil)))
      · skip
        refine c_skip ?_
        exact q_cut (K2.set (i + m - 1) y) (updB_f hc55) ⟨rfl, rfl, rfl, rfl, rfl, rfl, rfl, trivial⟩ (.cons .here (.cons .here (.cons .here .nil)))
    intro K3 hK3
    refine q_then ?_
    -- region 10
    refine c_region ?_
    refine l_val (y_move rfl) rfl rfl rfl ?_
    refine l_val (y_move rfl) rfl rfl rfl ?_
    refine l_val (y_bin rfl rfl rfl (fitN (m := i + m) (by omega) (by omega))) rfl rfl rfl ?_
    refine l_val (y_assign rfl) rfl rfl rfl ?_
    refine l_nil ?_
    refine q_block ?_
    exact q_rnd (i + m, r, K3) (hL.next hsh2 (hO_gl _ _) (adO_gl _) hK hK3) (by simp only [List.length_cons]; omega) ⟨rfl, rfl, rfl, rfl, rfl, rfl, trivial⟩ (.cons .here (.cons .here (.cons .here .nil)))
  · skip
    have hLl := hL.len
    have hL2 := hL.done (by simp only [decide_eq_false_iff_not] at hc17; omega)
    obtain ⟨G, hG⟩ : ∃ G, G = (letL (hO (decide (2 ≤ dir)) (IntKind.i64.wrap (s.tdiv 2))) (adO (IntKind.i64.wrap (s.tdiv 2))) st en gs.length 0 ms gs) := ⟨_, rfl⟩
    rw [← hG] at hL2 ⊢
    subst hL2
    have hok := slOk_O hok hLl
    rw [← hLl] at hok ⊢
    refine c_exit ?_
    refine q_then_exit ?_
    refine q_rnd_exit ?_
    refine q_block_exit ?_
    refine q_then ?_
    refine c_seq ?_
    -- region 11
    refine c_region ?_
    refine l_val (y_loadN (vs := [_, _, _, _, _, _]) ld_24 rfl m0 rfl rfl) rfl rfl rfl ?_
    refine l_call ok_10 rfl rfl (out_new (fun w1 hw1 => f10_any w1 (svA sv) (svC sv) L dir ad up dn gp _ (slV_eq hok) (RdO_sv hw1 (.skip (.skip .refl)) hok) (by omega))) ?_
    intro sv2 hok2
    refine l_sub (L' := [(8, .pointer (some ⟨b8, 0, none⟩)), (74, .agg (uC dir (sumI L) up dn gp (slV sv2 L.length)).toArray)]) (H' := (b8, [.int .i64 0, .int .i64 0, .int .i64 0, .int .i64 0, .int .i64 0, .slice none 0 0], 24) :: slH sv2 (encO L) 38) ⟨rfl, rfl, trivial⟩ (.cons (.there .here) (.skip .right)) ?_
    refine l_does rfl rfl (g_storeN (vs := [_, _, _, _, _, _]) (cs' := [_, _, _, _, _, _]) sz_24 rfl rfl rfl rfl rfl (uC_one _ _ _ _ _ _ _) rfl .here) ?_
    intro _ _
    refine l_nil ?_
    refine q_then ?_
    refine c_ret ?_
    exact body_ret (rs := [.cell 8 24]) rfl (vs := [.agg (uC dir (sumI L) up dn gp (slV sv2 L.length)).toArray]) ⟨⟨b8, 0, _, _, rfl, m0, .inr ⟨6, _, ld_24, rfl, rfl, rfl⟩⟩, trivial⟩ (out_end sv2 hok2 rfl (.skip .refl)) _ (.inr rfl)

end Go.Proofs.Ytbepljmeflndkaa
