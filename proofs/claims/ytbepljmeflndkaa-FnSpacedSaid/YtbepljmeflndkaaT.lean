/- RecomputeAdvance on a run among others; AddWordSpacing. -/
import Derived.Test.YtbepljmeflndkaaQ
import Derived.Test.YtbepljmeflndkaaN
import Derived.Test.YtbepljmeflndkaaR
namespace Go.Proofs.Ytbepljmeflndkaa
open Go.Eng
set_option maxRecDepth 100000
attribute [local irreducible] IntKind.wrap Int.tdiv Int.tmod Int.emod sm encO encG maxLen sepr

set_option maxHeartbeats 1000000 in
theorem f22_at (w : World) (bO o n : Nat) (B : Int → List Value) (ad up dn gp dir : Int) (sv : Sv) (gs : List GL) (hn : gs.length = n) (hok : slOk sv n 16 (encG gs)) (hlen : gs.length ≤ 1000000) (hM : Mid B o up dn gp dir (slV sv n))
    (hw : Hp w (((bO, B ad, 53) :: slH sv (encG gs) 67).map (·.1)) ((bO, B ad, 53) :: slH sv (encG gs) 67) w) :
    Calls Try.prog 22 [Value.pointer (some ⟨bO, o, none⟩)].toArray w (Out w (((bO, B ad, 53) :: slH sv (encG gs) 67).map (·.1)) (fun _ : Unit => True) (fun _ => .tuple #[])
      (fun _ => (bO, B (sumW gs), 53) :: slH sv (encG gs) 67)) := by
  refine enter (n := 23) Try.func22 rfl rfl rfl hw ?_
  refine c_seq ?_
  -- region 0
  refine c_region ?_
  refine l_val (y_assign rfl) rfl rfl rfl ?_
  refine l_nil ?_
  refine q_then ?_
  refine c_seq ?_
  refine c_seq ?_
  -- region 1
  refine c_region ?_
  refine l_val (y_move rfl) rfl rfl rfl ?_
  refine l_val (y_nilCheck rfl) rfl rfl rfl ?_
  refine l_val (y_fieldAddr fo_53_2 rfl) rfl rfl rfl ?_
  refine l_val (y_load1 ld_45 rfl m0 (hM.get rfl)) rfl rfl rfl ?_
  refine l_val (y_lenSv sl_45 rfl hok.nil) rfl rfl rfl ?_
  refine l_val (y_move rfl) rfl rfl rfl ?_
  refine l_nil ?_
  refine q_then ?_
  refine c_block ?_
  refine c_loop (ι := Nat) (φ := fun k => k ≤ gs.length) (L' := fun k => [(0, .pointer (some ⟨bO, o, none⟩)), (2, .int .i32 (sumW (gs.take k))), (8, slV sv n), (9, .int .i64 (n : Int)), (10, .int .i64 (k : Int))]) (H' := fun _ => (bO, B ad, 53) :: slH sv (encG gs) 67) (fun k => gs.length - k) 0 (Nat.zero_le _) ⟨rfl, rfl, rfl, rfl, rfl, trivial⟩ (.cons .here .refl) ?_
  intro k hk
  refine c_seq ?_
  -- region 2
  refine c_region ?_
  refine l_val (y_bin rfl rfl rfl rfl) rfl rfl rfl ?_
  refine l_nil ?_
  refine q_then ?_
  refine c_seq ?_
  refine c_cond rfl (fun hc11 => ?_) (fun hc11 => ?_)
  · skip
    have hk2 : k < gs.length := by simp only [decide_eq_true_eq] at hc11; omega
    obtain ⟨g, hg⟩ := some_at hk2
    obtain _ | ⟨bG, sp, cap⟩ := sv
    · exact absurd hok.2 (by simp only; omega)
    refine c_skip ?_
    refine q_then ?_
    refine c_seq ?_
    refine c_block ?_
    refine c_seq ?_
    -- region 3
    refine c_region ?_
    refine l_val (y_indexAddrOwn es_45 rfl rfl (by omega)) rfl rfl rfl ?_
    refine l_val (y_loadN ld_67 rfl m1 (encG_at hg) rfl) rfl rfl rfl ?_
    refine l_gives rfl rfl (g_alloc ze_67) rfl ?_
    intro b4 hb4
    refine l_does rfl rfl (g_storeN (vs := [_, _, _, _, _, _, _, _, _, _, _, _, _, _, _, _]) (cs' := [_, _, _, _, _, _, _, _, _, _, _, _, _, _, _, _]) sz_67 rfl rfl rfl rfl rfl rfl rfl .here) ?_
    intro _ _
    refine l_nil ?_
    refine q_then ?_
    -- region 4
    refine c_region ?_
    refine l_val (y_move rfl) rfl rfl rfl ?_
    refine l_val (y_fieldAddr fo_67_4 rfl) rfl rfl rfl ?_
    refine l_val (y_load1 ld_44 rfl m0 rfl) rfl rfl rfl ?_
    refine l_val (y_bin rfl rfl rfl (sumW_step hg)) rfl rfl rfl ?_
    refine l_val (y_assign rfl) rfl rfl rfl ?_
    refine l_nil ?_
    refine q_block ?_
    refine q_then ?_
    -- region 5
    refine c_region ?_
    refine l_val (y_bin rfl rfl rfl (fitN (m := k + 1) (by omega) (by omega))) rfl rfl rfl ?_
    refine l_val (y_move rfl) rfl rfl rfl ?_
    refine l_nil ?_
    exact q_rnd (k + 1) hk2 (by omega) ⟨rfl, rfl, rfl, rfl, rfl, trivial⟩ (.cons (.there .here) (.cons (.there .here) .nil))
  · skip
    have hk2 : k = gs.length := by simp at hc11; omega
    subst hk2
    rw [List.take_length]
    refine c_exit ?_
    refine q_then_exit ?_
    refine q_rnd_exit ?_
    refine q_block_exit ?_
    refine q_then ?_
    -- region 6
    refine c_region ?_
    refine l_val (y_move rfl) rfl rfl rfl ?_
    refine l_val (y_move rfl) rfl rfl rfl ?_
    refine l_val (y_nilCheck rfl) rfl rfl rfl ?_
    refine l_val (y_fieldAddr fo_53_0 rfl) rfl rfl rfl ?_
    refine l_does rfl rfl (g_store1 (cs' := B _) sz_44 rfl rfl rfl hM.lt rfl hM.set .here) ?_
    intro _ _
    refine l_nil ?_
    exact body_ret (rs := []) rfl (vs := []) trivial (out_end () trivial rfl (.cons .here .refl)) _ (.inl rfl)

theorem someI {x : Int} (h : 0 ≤ x) : some (Value.int .i64 x) = some (.int .i64 (x.toNat : Int)) := by rw [Int.toNat_of_nonneg h]
theorem wnt_a {ts : List Int} {cl ru gl : Int} (h : (ru == 1) = false) : wnt ts cl ru gl = false := by unfold wnt; rw [h]; rfl
theorem wnt_b {ts : List Int} {cl ru gl : Int} (h : (gl == 1) = false) : wnt ts cl ru gl = false := by unfold wnt; rw [h]; simp
theorem wnt_c {ts : List Int} {cl ru gl c : Int} (hc : ts[cl.toNat]? = some c) (h : sepr c = false) : wnt ts cl ru gl = false := by unfold wnt; rw [List.getD_eq_getElem?_getD, hc, Option.getD_some, h]; simp
theorem wnt_y {ts : List Int} {cl ru gl c : Int} (hc : ts[cl.toNat]? = some c) (h1 : (ru == 1) = true) (h2 : (gl == 1) = true) (h : sepr c = true) : wnt ts cl ru gl = true := by unfold wnt; rw [List.getD_eq_getElem?_getD, hc, Option.getD_some, h, h1, h2]; rfl
theorem wG_a {v : Bool} {ts : List Int} {s d : Int} {g : GL} (h : (g.ru == 1) = false) : wG v ts s d g = g := by unfold wG; rw [wnt_a h]; rfl
theorem wG_b {v : Bool} {ts : List Int} {s d : Int} {g : GL} (h : (!(g.gl == 1)) = true) : wG v ts s d g = g := by unfold wG; rw [wnt_b (by simpa using h)]; rfl
theorem wG_c {v : Bool} {ts : List Int} {s d c : Int} {g : GL} (hc : ts[g.cl.toNat]? = some c) (h : sepr c = false) : wG v ts s d g = g := by unfold wG; rw [wnt_c hc h]; rfl
theorem wG_step {v b : Bool} {ts : List Int} {s d c : Int} {g y : GL} {M gs : List GL} {k : Nat} (hL : M.set k g = (gs.take k).map (wG v ts s d) ++ gs.drop k) (hg : gs[k]? = some g) (hc : ts[g.cl.toNat]? = some c) (h1 : (g.ru == 1) = true) (h2 : (!(g.gl == 1)) = false)
    (h3 : sepr c = true) (hv : v = b) (hy : y = xG b s d g) : M.set k y = (gs.take (k + 1)).map (wG v ts s d) ++ gs.drop (k + 1) := by
  have h := (map_step hL hg).2
  rw [List.set_set] at h
  rw [← h, hy, ← hv]
  unfold wG
  rw [wnt_y hc h1 (by simpa using h2) h3]
  rfl
set_option maxHeartbeats 2000000 in
theorem f29_any (w : World) (bO o cap : Nat) (B : Int → List Value) (ad up dn gp dir s : Int) (A : Option Addr) (ts : List Int) (hdir : 0 ≤ dir ∧ dir ≤ 3) (sv : Sv) (gs : List GL) (hok : slOk sv gs.length 16 (encG gs)) (hlen : gs.length ≤ 1000)
    (hM : Mid B o up dn gp dir (slV sv gs.length)) (hC : ∀ g ∈ gs, 0 ≤ g.cl ∧ g.cl < ts.length) (hT : RdT w (((bO, B ad, 53) :: slH sv (encG gs) 67).map (·.1)) A ts) (hw : Hp w (((bO, B ad, 53) :: slH sv (encG gs) 67).map (·.1)) ((bO, B ad, 53) :: slH sv (encG gs) 67) w) :
    Calls Try.prog 29 [Value.pointer (some ⟨bO, o, none⟩), .slice A ts.length cap, .int .i32 s].toArray w (Out w (((bO, B ad, 53) :: slH sv (encG gs) 67).map (·.1)) (fun _ : Unit => True) (fun _ => .tuple #[])
      (fun _ => (bO, B (sumW (gs.map (wG (decide (2 ≤ dir)) ts s (IntKind.i32.wrap (s.tdiv 2))))), 53) :: slH sv (encG (gs.map (wG (decide (2 ≤ dir)) ts s (IntKind.i32.wrap (s.tdiv 2))))) 67)) := by
  refine enter (n := 114) Try.func29 rfl rfl rfl hw ?_
  refine c_seq ?_
  -- region 0
  refine c_region ?_
  refine l_val (y_move rfl) rfl rfl rfl ?_
  refine l_val (y_nilCheck rfl) rfl rfl rfl ?_
  refine l_val (y_fieldAddr fo_53_5 rfl) rfl rfl rfl ?_
  refine l_val (y_load1 ld_48 rfl m0 (hM.get rfl)) rfl rfl rfl ?_
  refine l_call ok_32 rfl rfl (out_calm (fun w1 => f32_any dir hdir w1)) ?_
  intro _ _
  refine l_val (y_assign rfl) rfl rfl rfl ?_
  refine l_nil ?_
  refine q_then ?_
  refine c_seq ?_
  refine c_seq ?_
  -- region 1
  refine c_region ?_
  refine l_val (y_move rfl) rfl rfl rfl ?_
  refine l_val (y_nilCheck rfl) rfl rfl rfl ?_
  refine l_val (y_fieldAddr fo_53_2 rfl) rfl rfl rfl ?_
  refine l_val (y_load1 ld_45 rfl m0 (hM.get rfl)) rfl rfl rfl ?_
  refine l_val (y_lenSv sl_45 rfl hok.nil) rfl rfl rfl ?_
  refine l_val (y_move rfl) rfl rfl rfl ?_
  refine l_nil ?_
  refine q_then ?_
  refine c_block ?_
  refine c_loop (ι := Nat × List GL) (φ := fun x => x.1 ≤ gs.length ∧ x.2 = (gs.take x.1).map (wG (decide (2 ≤ dir)) ts s (IntKind.i32.wrap (s.tdiv 2))) ++ gs.drop x.1) (L' := fun x => [(0, .pointer (some ⟨bO, o, none⟩)), (1, .slice A ts.length cap), (2, .int .i32 s), (6, .bool (decide (2 ≤ dir))), (18, slV sv gs.length), (19, .int .i64 (gs.length : Int)), (20, .int .i64 (x.1 : Int))]) (H' := fun x => (bO, B ad, 53) :: slH sv (encG x.2) 67) (fun x => gs.length - x.1) (0, gs) ⟨Nat.zero_le _, rfl⟩ ⟨rfl, rfl, rfl, rfl, rfl, rfl, rfl, trivial⟩ (.cons .here .refl) ?_
  intro ⟨k, L⟩ ⟨hk, hL⟩
  simp only at hk hL ⊢
  refine c_seq ?_
  -- region 2
  refine c_region ?_
  refine l_val (y_bin rfl rfl rfl rfl) rfl rfl rfl ?_
  refine l_nil ?_
  refine q_then ?_
  refine c_seq ?_
  refine c_cond rfl (fun hc21 => ?_) (fun hc21 => ?_)
  · skip
    have hk2 : k < gs.length := by simp only [decide_eq_true_eq] at hc21; omega
    obtain ⟨g, hg⟩ := some_at hk2
    have hcl := hC g (List.mem_of_getElem? hg)
    obtain ⟨c, hc⟩ := some_at (l := ts) (k := g.cl.toNat) (by omega)
    obtain ⟨p, rfl, hpb, hpS, hpc⟩ := hT _ c hc
    obtain ⟨M, hkM, rfl⟩ : ∃ M, k < M.length ∧ L = M.set k g := ⟨L, open_set (map_step hL hg).1⟩
    obtain _ | ⟨bG, sp, cap1⟩ := sv
    · exact absurd hok.2 (by simp only; omega)
    refine c_skip ?_
    refine q_then ?_
    refine c_seq ?_
    refine c_block ?_
    refine c_seq ?_
    -- region 3
    refine c_region ?_
    refine l_val (y_move rfl) rfl rfl rfl ?_
    refine l_val (y_indexAddrOwn es_45 rfl rfl hk2) rfl rfl rfl ?_
    refine l_val (y_loadN (vs := GL.cells g) ld_67 rfl m1 (encG_at (set_get hkM)) rfl) rfl rfl rfl ?_
    refine l_gives rfl rfl (g_alloc ze_67) rfl ?_
    intro b8 hb8
    refine l_val (y_assign rfl) rfl rfl rfl ?_
    refine l_does rfl rfl (g_storeN (vs := [_, _, _, _, _, _, _, _, _, _, _, _, _, _, _, _]) (cs' := [_, _, _, _, _, _, _, _, _, _, _, _, _, _, _, _]) sz_67 rfl rfl rfl rfl rfl rfl rfl .here) ?_
    intro _ _
    refine l_nil ?_
    refine q_then ?_
    refine c_seq ?_
    refine c_seq ?_
    -- region 4
    refine c_region ?_
    refine l_val (y_fieldAddr fo_67_10 rfl) rfl rfl rfl ?_
    refine l_val (y_load1 ld_3 rfl m0 rfl) rfl rfl rfl ?_
    refine l_val (y_bin rfl rfl rfl rfl) rfl rfl rfl ?_
    refine l_val (y_move rfl) rfl rfl rfl ?_
    refine l_split (t := 28) rfl rfl (fun hs28 => ?_) (fun hs28 => ?_)
    · skip
      refine l_want rfl rfl ?_
      refine l_val (y_fieldAddr fo_67_11 rfl) rfl rfl rfl ?_
      refine l_want rfl rfl ?_
      refine l_val (y_load1 ld_3 rfl m0 rfl) rfl rfl rfl ?_
      refine l_want rfl rfl ?_
      refine l_val (y_bin rfl rfl rfl rfl) rfl rfl rfl ?_
      refine l_val (y_pick rfl rfl rfl) rfl rfl rfl ?_
      refine l_val (y_not rfl) rfl rfl rfl ?_
      refine l_nil ?_
      refine q_then ?_
      refine c_cond rfl (fun hc33 => ?_) (fun hc33 => ?_)
      · skip
        refine c_exit ?_
        refine q_then_exit ?_
        refine q_block_exit ?_
        refine q_then ?_
        -- region 20
        refine c_region ?_
        refine l_val (y_bin rfl rfl rfl (fitN (m := k + 1) (by omega) (by omega))) rfl rfl rfl ?_
        refine l_val (y_move rfl) rfl rfl rfl ?_
        refine l_nil ?_
        exact q_rnd (k + 1, M.set k g) ⟨hk2, map_keep hL hg (by first | exact wG_a hs28 | exact wG_b hc33 | exact wG_c hc hs)⟩ (by simp only; omega) ⟨rfl, rfl, rfl, rfl, rfl, rfl, rfl, trivial⟩ (.cons (.there .here) (.cons (.there .here) .nil))
      · skip
        refine c_skip ?_
        refine q_then ?_
        refine c_seq ?_
        -- region 5
        refine c_region ?_
        refine l_val (y_move rfl) rfl rfl rfl ?_
        refine l_val (y_fieldAddr fo_67_9 rfl) rfl rfl rfl ?_
        refine l_val (y_load1 ld_3 rfl m0 rfl) rfl rfl rfl ?_
        refine l_val (y_indexAddr es_29 rfl (someI hcl.1) (by omega)) rfl rfl rfl ?_
        refine l_val (y_oldLoad1 ld_21 rfl (by rw [block_add]; exact hpb) (by rw [block_add]; exact hpS) (by rw [Nat.mul_one]; exact hpc)) rfl rfl rfl ?_
        refine l_val (y_assign rfl) rfl rfl rfl ?_
        refine l_nil ?_
        refine q_then ?_
        refine c_seq ?_
        refine c_seq ?_
        -- region 6
        refine c_region ?_
        refine l_val (y_move rfl) rfl rfl rfl ?_
        refine l_nil ?_
        refine q_then ?_
        refine c_block ?_
        refine c_seq ?_
        refine c_seq ?_
        -- region 7
        refine c_region ?_
        refine l_val (y_bin rfl rfl rfl rfl) rfl rfl rfl ?_
        refine l_val (y_assign rfl) rfl rfl rfl ?_
        refine l_nil ?_
        refine q_then ?_
        refine c_cut (ι := Unit) (φ := fun _ => True) (L' := fun _ => [(0, .pointer (some ⟨bO, o, none⟩)), (1, .slice (some p) ts.length cap), (2, .int .i32 s), (6, .bool (decide (2 ≤ dir))), (18, .slice (some ⟨bG, 0, none⟩) gs.length cap1), (19, .int .i64 (gs.length : Int)), (20, .int .i64 (k : Int)), (7, .int .i64 (k : Int)), (40, .bool (sepr c))]) (H' := fun _ => (bO, B ad, 53) :: (bG, encG (M.set k g) ++ sp, 67) :: []) ?_ ?_
        · skip
          refine c_cond rfl (fun hq1 => ?_) (fun hq1 => ?_)
          · skip
            refine c_skip ?_
            exact q_cut () trivial ⟨rfl, rfl, rfl, rfl, rfl, rfl, rfl, rfl, (someB (by unfold sepr; exact (sepT hq1))), trivial⟩ (.cons (.there .here) (.cons (.there .here) .nil))
          · skip
            refine c_seq ?_
            -- region 8
            refine c_region ?_
            refine l_val (y_bin rfl rfl rfl rfl) rfl rfl rfl ?_
            refine l_val (y_assign rfl) rfl rfl rfl ?_
            refine l_nil ?_
            refine q_then ?_
            refine c_cond rfl (fun hq2 => ?_) (fun hq2 => ?_)
            · skip
              refine c_skip ?_
              exact q_cut () trivial ⟨rfl, rfl, rfl, rfl, rfl, rfl, rfl, rfl, (someB (by unfold sepr; exact (sepF hq1 (sepT hq2)))), trivial⟩ (.cons (.there .here) (.cons (.there .here) .nil))
            · skip
              refine c_seq ?_
              -- region 9
              refine c_region ?_
              refine l_val (y_bin rfl rfl rfl rfl) rfl rfl rfl ?_
              refine l_val (y_assign rfl) rfl rfl rfl ?_
              refine l_nil ?_
              refine q_then ?_
              refine c_cond rfl (fun hq3 => ?_) (fun hq3 => ?_)
              · skip
                refine c_skip ?_
                exact q_cut () trivial ⟨rfl, rfl, rfl, rfl, rfl, rfl, rfl, rfl, (someB (by unfold sepr; exact (sepF hq1 (sepF hq2 (sepT hq3))))), trivial⟩ (.cons (.there .here) (.cons (.there .here) .nil))
              · skip
                refine c_seq ?_
                -- region 10
                refine c_region ?_
                refine l_val (y_bin rfl rfl rfl rfl) rfl rfl rfl ?_
                refine l_val (y_assign rfl) rfl rfl rfl ?_
                refine l_nil ?_
                refine q_then ?_
                refine c_cond rfl (fun hq4 => ?_) (fun hq4 => ?_)
                · skip
                  refine c_skip ?_
                  exact q_cut () trivial ⟨rfl, rfl, rfl, rfl, rfl, rfl, rfl, rfl, (someB (by unfold sepr; exact (sepF hq1 (sepF hq2 (sepF hq3 (sepT hq4)))))), trivial⟩ (.cons (.there .here) (.cons (.there .here) .nil))
                · skip
                  refine c_seq ?_
                  -- region 11
                  refine c_region ?_
                  refine l_val (y_bin rfl rfl rfl rfl) rfl rfl rfl ?_
                  refine l_val (y_assign rfl) rfl rfl rfl ?_
                  refine l_nil ?_
                  refine q_then ?_
                  refine c_cond rfl (fun hq5 => ?_) (fun hq5 => ?_)
                  · skip
                    refine c_skip ?_
                    exact q_cut () trivial ⟨rfl, rfl, rfl, rfl, rfl, rfl, rfl, rfl, (someB (by unfold sepr; exact (sepF hq1 (sepF hq2 (sepF hq3 (sepF hq4 (sepT hq5))))))), trivial⟩ (.cons (.there .here) (.cons (.there .here) .nil))
                  · skip
                    refine c_seq ?_
                    -- region 12
                    refine c_region ?_
                    refine l_val (y_bin rfl rfl rfl rfl) rfl rfl rfl ?_
                    refine l_val (y_assign rfl) rfl rfl rfl ?_
                    refine l_nil ?_
                    refine q_then ?_
                    refine c_cond rfl (fun hq6 => ?_) (fun hq6 => ?_)
                    · skip
                      refine c_skip ?_
                      exact q_cut () trivial ⟨rfl, rfl, rfl, rfl, rfl, rfl, rfl, rfl, (someB (by unfold sepr; exact (sepF hq1 (sepF hq2 (sepF hq3 (sepF hq4 (sepF hq5 (sepT hq6)))))))), trivial⟩ (.cons (.there .here) (.cons (.there .here) .nil))
                    · skip
                      -- region 13
                      refine c_region ?_
                      refine l_val (y_bin rfl rfl rfl rfl) rfl rfl rfl ?_
                      refine l_val (y_assign rfl) rfl rfl rfl ?_
                      refine l_nil ?_
                      exact q_cut () trivial ⟨rfl, rfl, rfl, rfl, rfl, rfl, rfl, rfl, (someB (by unfold sepr; exact (sepF hq1 (sepF hq2 (sepF hq3 (sepF hq4 (sepF hq5 (sepF hq6 rfl)))))))), trivial⟩ (.cons (.there .here) (.cons (.there .here) .nil))
        intro _ _
        refine q_then ?_
        refine c_cond rfl (fun hs => ?_) (fun hs => ?_)
        · skip
          refine c_skip ?_
          refine q_block ?_
          refine q_then ?_
          refine c_seq ?_
          -- region 14
          refine c_region ?_
          refine l_val (y_move rfl) rfl rfl rfl ?_
          refine l_val (y_nilCheck rfl) rfl rfl rfl ?_
          refine l_val (y_fieldAddr fo_53_2 rfl) rfl rfl rfl ?_
          refine l_val (y_load1 ld_45 rfl m0 (hM.get rfl)) rfl rfl rfl ?_
          refine l_val (y_move rfl) rfl rfl rfl ?_
          refine l_val (y_indexAddrOwn es_45 rfl rfl hk2) rfl rfl rfl ?_
          refine l_val (y_fieldAddr fo_67_4 rfl) rfl rfl rfl ?_
          refine l_val (y_load1 ld_44 rfl m1 (gget hkM rfl)) rfl rfl rfl ?_
          refine l_val (y_move rfl) rfl rfl rfl ?_
          refine l_val (y_bin rfl rfl rfl rfl) rfl rfl rfl ?_
          refine l_val (y_indexAddrOwn es_45 rfl rfl hk2) rfl rfl rfl ?_
          refine l_val (y_fieldAddr fo_67_4 rfl) rfl rfl rfl ?_
          refine l_does rfl rfl (g_store1 (cs' := encG ((M).set k ({ g with ad := IntKind.i32.wrap ((g).ad + s) } : GL)) ++ sp) sz_44 rfl rfl rfl (gfit hkM rfl) rfl (gset (x := g) (y := { g with ad := IntKind.i32.wrap ((g).ad + s) }) hkM rfl rfl) (.there .here)) ?_
          intro _ _
          refine l_nil ?_
          refine q_then ?_
          refine c_seq ?_
          -- region 15
          refine c_region ?_
          refine l_val (y_move rfl) rfl rfl rfl ?_
          refine l_nil ?_
          refine q_then ?_
          refine c_cond rfl (fun hc60 => ?_) (fun hc60 => ?_)
          · skip
            refine c_seq ?_
            -- region 16
            refine c_region ?_
            refine l_val (y_move rfl) rfl rfl rfl ?_
            refine l_val (y_nilCheck rfl) rfl rfl rfl ?_
            refine l_val (y_fieldAddr fo_53_2 rfl) rfl rfl rfl ?_
            refine l_val (y_load1 ld_45 rfl m0 (hM.get rfl)) rfl rfl rfl ?_
            refine l_val (y_move rfl) rfl rfl rfl ?_
            refine l_val (y_indexAddrOwn es_45 rfl rfl hk2) rfl rfl rfl ?_
            refine l_val (y_fieldAddr fo_67_6 rfl) rfl rfl rfl ?_
            refine l_val (y_load1 ld_44 rfl m1 (gget hkM rfl)) rfl rfl rfl ?_
            refine l_val (y_move rfl) rfl rfl rfl ?_
            refine l_val (y_bin rfl rfl rfl rfl) rfl rfl rfl ?_
            refine l_val (y_indexAddrOwn es_45 rfl rfl hk2) rfl rfl rfl ?_
            refine l_val (y_fieldAddr fo_67_6 rfl) rfl rfl rfl ?_
            refine l_does rfl rfl (g_store1 (cs' := encG ((M).set k ({ { g with ad := IntKind.i32.wrap ((g).ad + s) } with ya := IntKind.i32.wrap (({ g with ad := IntKind.i32.wrap ((g).ad + s) }).ya + s) } : GL)) ++ sp) sz_44 rfl rfl rfl (gfit hkM rfl) rfl (gset (x := { g with ad := IntKind.i32.wrap ((g).ad + s) }) (y := { { g with ad := IntKind.i32.wrap ((g).ad + s) } with ya := IntKind.i32.wrap (({ g with ad := IntKind.i32.wrap ((g).ad + s) }).ya + s) }) hkM rfl rfl) (.there .here)) ?_
            intro _ _
            refine l_nil ?_
            refine q_then ?_
            -- region 17
            refine c_region ?_
            refine l_val (y_move rfl) rfl rfl rfl ?_
            refine l_val (y_nilCheck rfl) rfl rfl rfl ?_
            refine l_val (y_fieldAddr fo_53_2 rfl) rfl rfl rfl ?_
            refine l_val (y_load1 ld_45 rfl m0 (hM.get rfl)) rfl rfl rfl ?_
            refine l_val (y_move rfl) rfl rfl rfl ?_
            refine l_val (y_indexAddrOwn es_45 rfl rfl hk2) rfl rfl rfl ?_
            refine l_val (y_fieldAddr fo_67_8 rfl) rfl rfl rfl ?_
            refine l_val (y_load1 ld_44 rfl m1 (gget hkM rfl)) rfl rfl rfl ?_
            refine l_val (y_move rfl) rfl rfl rfl ?_
            refine l_val (y_quo rfl rfl (by decide) rfl) rfl rfl rfl ?_
            refine l_val (y_bin rfl rfl rfl rfl) rfl rfl rfl ?_
            refine l_val (y_indexAddrOwn es_45 rfl rfl hk2) rfl rfl rfl ?_
            refine l_val (y_fieldAddr fo_67_8 rfl) rfl rfl rfl ?_
            refine l_does rfl rfl (g_store1 (cs' := encG ((M).set k ({ { { g with ad := IntKind.i32.wrap ((g).ad + s) } with ya := IntKind.i32.wrap (({ g with ad := IntKind.i32.wrap ((g).ad + s) }).ya + s) } with yo := IntKind.i32.wrap (({ { g with ad := IntKind.i32.wrap ((g).ad + s) } with ya := IntKind.i32.wrap (({ g with ad := IntKind.i32.wrap ((g).ad + s) }).ya + s) }).yo + (IntKind.i32.wrap (s.tdiv 2))) } : GL)) ++ sp) sz_44 rfl rfl rfl (gfit hkM rfl) rfl (gset (x := { { g with ad := IntKind.i32.wrap ((g).ad + s) } with ya := IntKind.i32.wrap (({ g with ad := IntKind.i32.wrap ((g).ad + s) }).ya + s) }) (y := { { { g with ad := IntKind.i32.wrap ((g).ad + s) } with ya := IntKind.i32.wrap (({ g with ad := IntKind.i32.wrap ((g).ad + s) }).ya + s) } with yo := IntKind.i32.wrap (({ { g with ad := IntKind.i32.wrap ((g).ad + s) } with ya := IntKind.i32.wrap (({ g with ad := IntKind.i32.wrap ((g).ad + s) }).ya + s) }).yo + (IntKind.i32.wrap (s.tdiv 2))) }) hkM rfl rfl) (.there .here)) ?_
            intro _ _
            refine l_nil ?_
            refine q_block ?_
            refine q_then ?_
            -- region 20
            refine c_region ?_
            refine l_val (y_bin rfl rfl rfl (fitN (m := k + 1) (by omega) (by omega))) rfl rfl rfl ?_
            refine l_val (y_move rfl) rfl rfl rfl ?_
            refine l_nil ?_
            exact q_rnd (k + 1, M.set k ({ { { g with ad := IntKind.i32.wrap ((g).ad + s) } with ya := IntKind.i32.wrap (({ g with ad := IntKind.i32.wrap ((g).ad + s) }).ya + s) } with yo := IntKind.i32.wrap (({ { g with ad := IntKind.i32.wrap ((g).ad + s) } with ya := IntKind.i32.wrap (({ g with ad := IntKind.i32.wrap ((g).ad + s) }).ya + s) }).yo + (IntKind.i32.wrap (s.tdiv 2))) })) ⟨hk2, wG_step hL hg hc hs28 hc33 hs hc60 rfl⟩ (by simp only; omega) ⟨rfl, rfl, rfl, rfl, rfl, rfl, rfl, trivial⟩ (.cons .here (.cons .here .nil))
          · skip
            refine c_seq ?_
            -- region 18
            refine c_region ?_
            refine l_val (y_move rfl) rfl rfl rfl ?_
            refine l_val (y_nilCheck rfl) rfl rfl rfl ?_
            refine l_val (y_fieldAddr fo_53_2 rfl) rfl rfl rfl ?_
            refine l_val (y_load1 ld_45 rfl m0 (hM.get rfl)) rfl rfl rfl ?_
            refine l_val (y_move rfl) rfl rfl rfl ?_
            refine l_val (y_indexAddrOwn es_45 rfl rfl hk2) rfl rfl rfl ?_
            refine l_val (y_fieldAddr fo_67_5 rfl) rfl rfl rfl ?_
            refine l_val (y_load1 ld_44 rfl m1 (gget hkM rfl)) rfl rfl rfl ?_
            refine l_val (y_move rfl) rfl rfl rfl ?_
            refine l_val (y_bin rfl rfl rfl rfl) rfl rfl rfl ?_
            refine l_val (y_indexAddrOwn es_45 rfl rfl hk2) rfl rfl rfl ?_
            refine l_val (y_fieldAddr fo_67_5 rfl) rfl rfl rfl ?_
            refine l_does rfl rfl (g_store1 (cs' := encG ((M).set k ({ { g with ad := IntKind.i32.wrap ((g).ad + s) } with xa := IntKind.i32.wrap (({ g with ad := IntKind.i32.wrap ((g).ad + s) }).xa + s) } : GL)) ++ sp) sz_44 rfl rfl rfl (gfit hkM rfl) rfl (gset (x := { g with ad := IntKind.i32.wrap ((g).ad + s) }) (y := { { g with ad := IntKind.i32.wrap ((g).ad + s) } with xa := IntKind.i32.wrap (({ g with ad := IntKind.i32.wrap ((g).ad + s) }).xa + s) }) hkM rfl rfl) (.there .here)) ?_
            intro _ _
            refine l_nil ?_
            refine q_then ?_
            -- region 19
            refine c_region ?_
            refine l_val (y_move rfl) rfl rfl rfl ?_
            refine l_val (y_nilCheck rfl) rfl rfl rfl ?_
            refine l_val (y_fieldAddr fo_53_2 rfl) rfl rfl rfl ?_
            refine l_val (y_load1 ld_45 rfl m0 (hM.get rfl)) rfl rfl rfl ?_
            refine l_val (y_move rfl) rfl rfl rfl ?_
            refine l_val (y_indexAddrOwn es_45 rfl rfl hk2) rfl rfl rfl ?_
            refine l_val (y_fieldAddr fo_67_7 rfl) rfl rfl rfl ?_
            refine l_val (y_load1 ld_44 rfl m1 (gget hkM rfl)) rfl rfl rfl ?_
            refine l_val (y_move rfl) rfl rfl rfl ?_
            refine l_val (y_quo rfl rfl (by decide) rfl) rfl rfl rfl ?_
            refine l_val (y_bin rfl rfl rfl rfl) rfl rfl rfl ?_
            refine l_val (y_indexAddrOwn es_45 rfl rfl hk2) rfl rfl rfl ?_
            refine l_val (y_fieldAddr fo_67_7 rfl) rfl rfl rfl ?_
            refine l_does rfl rfl (g_store1 (cs' := encG ((M).set k ({ { { g with ad := IntKind.i32.wrap ((g).ad + s) } with xa := IntKind.i32.wrap (({ g with ad := IntKind.i32.wrap ((g).ad + s) }).xa + s) } with xo := IntKind.i32.wrap (({ { g with ad := IntKind.i32.wrap ((g).ad + s) } with xa := IntKind.i32.wrap (({ g with ad := IntKind.i32.wrap ((g).ad + s) }).xa + s) }).xo + (IntKind.i32.wrap (s.tdiv 2))) } : GL)) ++ sp) sz_44 rfl rfl rfl (gfit hkM rfl) rfl (gset (x := { { g with ad := IntKind.i32.wrap ((g).ad + s) } with xa := IntKind.i32.wrap (({ g with ad := IntKind.i32.wrap ((g).ad + s) }).xa + s) }) (y := { { { g with ad := IntKind.i32.wrap ((g).ad + s) } with xa := IntKind.i32.wrap (({ g with ad := IntKind.i32.wrap ((g).ad + s) }).xa + s) } with xo := IntKind.i32.wrap (({ { g with ad := IntKind.i32.wrap ((g).ad + s) } with xa := IntKind.i32.wrap (({ g with ad := IntKind.i32.wrap ((g).ad + s) }).xa + s) }).xo + (IntKind.i32.wrap (s.tdiv 2))) }) hkM rfl rfl) (.there .here)) ?_
            intro _ _
            refine l_nil ?_
            refine q_block ?_
            refine q_then ?_
            -- region 20
            refine c_region ?_
            refine l_val (y_bin rfl rfl rfl (fitN (m := k + 1) (by omega) (by omega))) rfl rfl rfl ?_
            refine l_val (y_move rfl) rfl rfl rfl ?_
            refine l_nil ?_
            exact q_rnd (k + 1, M.set k ({ { { g with ad := IntKind.i32.wrap ((g).ad + s) } with xa := IntKind.i32.wrap (({ g with ad := IntKind.i32.wrap ((g).ad + s) }).xa + s) } with xo := IntKind.i32.wrap (({ { g with ad := IntKind.i32.wrap ((g).ad + s) } with xa := IntKind.i32.wrap (({ g with ad := IntKind.i32.wrap ((g).ad + s) }).xa + s) }).xo + (IntKind.i32.wrap (s.tdiv 2))) })) ⟨hk2, wG_step hL hg hc hs28 hc33 hs hc60 rfl⟩ (by simp only; omega) ⟨rfl, rfl, rfl, rfl, rfl, rfl, rfl, trivial⟩ (.cons .here (.cons .here .nil))
        · skip
          refine c_exit ?_
          refine q_block_other rfl ?_
          refine q_then_exit ?_
          refine q_block_exit ?_
          refine q_then ?_
          -- region 20
          refine c_region ?_
          refine l_val (y_bin rfl rfl rfl (fitN (m := k + 1) (by omega) (by omega))) rfl rfl rfl ?_
          refine l_val (y_move rfl) rfl rfl rfl ?_
          refine l_nil ?_
          exact q_rnd (k + 1, M.set k g) ⟨hk2, map_keep hL hg (by first | exact wG_a hs28 | exact wG_b hc33 | exact wG_c hc hs)⟩ (by simp only; omega) ⟨rfl, rfl, rfl, rfl, rfl, rfl, rfl, trivial⟩ (.cons .here (.cons .here .nil))
    · skip
      refine l_not rfl rfl rfl rfl ?_
      refine l_not rfl rfl rfl rfl ?_
      refine l_not rfl rfl rfl rfl ?_
      refine l_val (y_pick rfl rfl rfl) rfl rfl rfl ?_
      refine l_val (y_not rfl) rfl rfl rfl ?_
      refine l_nil ?_
      refine q_then ?_
      refine c_true rfl rfl ?_
      refine c_exit ?_
      refine q_then_exit ?_
      refine q_block_exit ?_
      refine q_then ?_
      -- region 20
      refine c_region ?_
      refine l_val (y_bin rfl rfl rfl (fitN (m := k + 1) (by omega) (by omega))) rfl rfl rfl ?_
      refine l_val (y_move rfl) rfl rfl rfl ?_
      refine l_nil ?_
      exact q_rnd (k + 1, M.set k g) ⟨hk2, map_keep hL hg (by first | exact wG_a hs28 | exact wG_b hc33 | exact wG_c hc hs)⟩ (by simp only; omega) ⟨rfl, rfl, rfl, rfl, rfl, rfl, rfl, trivial⟩ (.cons (.there .here) (.cons (.there .here) .nil))
  · skip
    have hLl := map_len hL
    have hL2 := map_end hL (by simp only [decide_eq_false_iff_not] at hc21; omega)
    subst hL2
    refine c_exit ?_
    refine q_then_exit ?_
    refine q_rnd_exit ?_
    refine q_block_exit ?_
    refine q_then ?_
    -- region 21
    refine c_region ?_
    refine l_val (y_move rfl) rfl rfl rfl ?_
    refine l_call ok_22 rfl rfl (out_callT [] rfl (fun w1 hw1 => f22_at w1 bO o gs.length B ad up dn gp dir sv _ (by simp) (slOk_G hok (by simp)) (by simp; omega) hM hw1)) ?_
    intro _ _
    refine l_nil ?_
    exact body_ret (rs := []) rfl (vs := []) trivial (out_end () trivial rfl .refl) _ (.inl rfl)

end Go.Proofs.Ytbepljmeflndkaa
