/- Part 11 of the proof about FnCharstring. -/
import Derived.Test.YtbepljmeflndkaaGreatDoorQ10
namespace Go.Proofs.YtbepljmeflndkaaGreatDoor
open Go.Eng Go.Fl
set_option maxRecDepth 100000
attribute [local irreducible] IntKind.wrap Int.tdiv Int.tmod Int.emod maxLen F G
set_option maxHeartbeats 8000000 in
theorem f135_any (w : World) (bH bM M : Nat) (q : QSt) (so : Sv) (v5 v6 v7 v13 : Value) (wd : List Value) (st : List Int) (hn : st.length ≤ 48) (hq : ∀ q ∈ st, Opd q) (hB0 : q.Bd M) (hM : M + 120 * 2147483648 < 2 ^ 53) (hok : slOk so q.out.length 7 (encG q.out)) (hlen : q.out.length ≤ 70000) (h4n : 4 ≤ st.length) (h4m : st.length % 4 < 2) (hR : RdM w (((HB bH so q.out.length q.bx v5 v6 v7 q.x q.y q.fx q.fy q.io v13 ((q.bx).isSome) wd) :: slH so (encG q.out) 77).map (·.1)) bM st) (hw : Hp w (((HB bH so q.out.length q.bx v5 v6 v7 q.x q.y q.fx q.fy q.io v13 ((q.bx).isSome) wd) :: slH so (encG q.out) 77).map (·.1)) ((HB bH so q.out.length q.bx v5 v6 v7 q.x q.y q.fx q.fy q.io v13 ((q.bx).isSome) wd) :: slH so (encG q.out) 77) w) : Calls Tryz.prog 135 [.pointer (some ⟨bH, 0, none⟩), .pointer (some ⟨bM, 0, none⟩)].toArray w (Out w (((HB bH so q.out.length q.bx v5 v6 v7 q.x q.y q.fx q.fy q.io v13 ((q.bx).isSome) wd) :: slH so (encG q.out) 77).map (·.1)) (fun z : Sv => slOk z (turningQ false q st).out.length 7 (encG (turningQ false q st).out)) (fun z => .tuple #[]) (fun z => (HB bH z (turningQ false q st).out.length ((turningQ false q st).bx) v5 v6 v7 ((turningQ false q st).x) ((turningQ false q st).y) ((turningQ false q st).fx) ((turningQ false q st).fy) ((turningQ false q st).io) v13 (((turningQ false q st).bx).isSome) wd) :: slH z (encG (turningQ false q st).out) 77)) := by
 obtain ⟨hMb, hMS, hMt, hMv⟩ := hR
 have hqx0 := nb hB0.x
 have hqy0 := nb hB0.y
 refine enter (n := 338) Tryz.func135 rfl rfl rfl hw ?_
 refine cR ?_
 refine lA rfl ?_
 refine nR ?_
 refine lM rfl ?_
 refine lN rfl ?_
 refine lV (y_fieldAddr fo_95_4 rfl) ?_
 refine lV (y_fieldAddr fo_91_1 rfl) ?_
 refine lV (y_oldLoad1 ld_21 rfl hMb hMS hMt) ?_
 refine lV (y_rem rfl rfl (by decide) (remI 8 rfl)) ?_
 refine lB rfl rfl rfl rfl ?_
 refine nQ ?_
 refine c_cond rfl (fun hc17 => ?_) (fun hc17 => ?_)
 ·have h84 : 4 ≤ st.length % 8 := by simp only [decide_eq_true_eq] at hc17; omega
  have hqx := nb hB0.x
  have hqy := nb hB0.y
  obtain ⟨a0, h0⟩ := at_of (l := st) (i := 0) (by omega)
  have n0 := at_opd hq h0
  obtain ⟨a1, h1⟩ := at_of (l := st) (i := 0 + 1) (by omega)
  have n1 := at_opd hq h1
  obtain ⟨a2, h2⟩ := at_of (l := st) (i := 0 + 2) (by omega)
  have n2 := at_opd hq h2
  obtain ⟨a3, h3⟩ := at_of (l := st) (i := 0 + 3) (by omega)
  have n3 := at_opd hq h3
  refine cR ?_
  refine lM rfl ?_
  refine lN rfl ?_
  refine lV (y_fieldAddr fo_97_5 rfl) ?_
  refine lV (y_loadN (vs := [_, _]) ld_50 rfl m0 rfl rfl) ?_
  refine l_gives rfl rfl (g_alloc ze_50) rfl ?_
  intro b5 hb5
  refine l_does rfl rfl (g_storeN (vs := [_, _]) (cs' := [_, _]) sz_50 rfl rfl rfl rfl rfl rfl rfl .here) ?_
  intro _ _
  refine nQ ?_
  refine c_seq ?_
  refine c_draw [] mixed rfl ?_
  refine dV 0 rfl (y_fieldAddr fo_50_1 rfl) ?_
  refine dM 2 rfl rfl ?_
  refine dM 3 rfl rfl ?_
  refine dN 4 rfl rfl ?_
  refine dV 5 rfl (y_fieldAddr fo_95_4 rfl) ?_
  refine dV 6 rfl (y_fieldAddr fo_91_0 rfl) ?_
  refine dV 7 rfl (y_indexArr (j := 0) ar_89 rfl rfl (blt513 (by omega))) ?_
  refine dV 8 rfl (y_oldLoad1 ld_41 rfl hMb hMS (hMv (0) _ h0)) ?_
  refine d_ready (i := 1) (rs := []) (by kernel_rfl) .nil (all_one ?_)
  refine o_gives rfl rfl rfl (gy (y_load1 ld_41 rfl m0 rfl)) rfl ?_
  intro _ _
  refine dV 9 rfl (y_fadd (a := q.y) (b := a0) rfl rfl (by omega) (RF_F (by omega)) (by omega)) ?_
  refine dV 10 rfl (y_fieldAddr fo_50_1 rfl) ?_
  refine d_ready (i := 11) (rs := []) (by kernel_rfl) .nil (all_one ?_)
  refine o_does rfl rfl rfl (g_store1 (cs' := [_, _]) sz_41 rfl rfl rfl rfl rfl rfl .here) ?_
  intro _ _
  refine d_end (by kernel_rfl) .nil ?_
  refine qR ?_
  refine lV (y_loadN (vs := [_, _]) ld_50 rfl m0 rfl rfl) ?_
  refine l_gives rfl rfl (g_alloc ze_50) rfl ?_
  intro b6 hb6
  refine l_does rfl rfl (g_storeN (vs := [_, _]) (cs' := [_, _]) sz_50 rfl rfl rfl rfl rfl rfl rfl .here) ?_
  intro _ _
  refine nQ ?_
  refine c_seq ?_
  refine c_draw [] mixed rfl ?_
  refine dM 0 rfl rfl ?_
  refine dM 1 rfl rfl ?_
  refine dV 2 rfl (y_bin rfl rfl rfl (fitI (m := 1) (by omega) (by omega))) ?_
  refine dN 3 rfl rfl ?_
  refine dV 4 rfl (y_fieldAddr fo_95_4 rfl) ?_
  refine dV 5 rfl (y_fieldAddr fo_91_0 rfl) ?_
  refine dV 6 rfl (y_indexArr (j := 1) ar_89 rfl rfl (blt513 (by omega))) ?_
  refine dV 7 rfl (y_oldLoad1 ld_41 rfl hMb hMS (hMv (1) _ h1)) ?_
  refine dM 8 rfl rfl ?_
  refine dM 9 rfl rfl ?_
  refine dV 10 rfl (y_bin rfl rfl rfl (fitI (m := 2) (by omega) (by omega))) ?_
  refine dN 11 rfl rfl ?_
  refine dV 12 rfl (y_fieldAddr fo_95_4 rfl) ?_
  refine dV 13 rfl (y_fieldAddr fo_91_0 rfl) ?_
  refine dV 14 rfl (y_indexArr (j := 2) ar_89 rfl rfl (blt513 (by omega))) ?_
  refine dV 15 rfl (y_oldLoad1 ld_41 rfl hMb hMS (hMv (2) _ h2)) ?_
  refine d_ready (i := 16) (rs := []) (by kernel_rfl) .nil (all_one ?_)
  refine o_call rfl (no_guard rfl) ok_148 rfl rfl (out_one [] (b := (b6, [] ++ (.float .f64 (F q.x) :: .float .f64 (F (q.y + a0)) :: []), 50)) (fun w9 ha_ hb_ => f148_any w9 b6 [] [] 50 q.x (q.y + a0) a1 a2 (F a1) (F a2) (by omega) (by omega) (RF_F (by omega)) (RF_F (by omega)) (by omega) (by omega) hb_)) ?_
  intro _ _
  refine d_end (by kernel_rfl) .nil ?_
  refine qR ?_
  refine lV (y_loadN (vs := [_, _]) ld_50 rfl m0 rfl rfl) ?_
  refine l_gives rfl rfl (g_alloc ze_50) rfl ?_
  intro b7 hb7
  refine l_does rfl rfl (g_storeN (vs := [_, _]) (cs' := [_, _]) sz_50 rfl rfl rfl rfl rfl rfl rfl .here) ?_
  intro _ _
  refine nQ ?_
  refine c_seq ?_
  refine c_draw [] mixed rfl ?_
  refine dV 0 rfl (y_fieldAddr fo_50_0 rfl) ?_
  refine dM 2 rfl rfl ?_
  refine dM 3 rfl rfl ?_
  refine dV 4 rfl (y_bin rfl rfl rfl (fitI (m := 3) (by omega) (by omega))) ?_
  refine dN 5 rfl rfl ?_
  refine dV 6 rfl (y_fieldAddr fo_95_4 rfl) ?_
  refine dV 7 rfl (y_fieldAddr fo_91_0 rfl) ?_
  refine dV 8 rfl (y_indexArr (j := 3) ar_89 rfl rfl (blt513 (by omega))) ?_
  refine dV 9 rfl (y_oldLoad1 ld_41 rfl hMb hMS (hMv (3) _ h3)) ?_
  refine d_ready (i := 1) (rs := []) (by kernel_rfl) .nil (all_one ?_)
  refine o_gives rfl rfl rfl (gy (y_load1 ld_41 rfl m0 rfl)) rfl ?_
  intro _ _
  refine dV 10 rfl (y_fadd (a := (q.x + a1)) (b := a3) rfl rfl (by omega) (RF_F (by omega)) (by omega)) ?_
  refine dV 11 rfl (y_fieldAddr fo_50_0 rfl) ?_
  refine d_ready (i := 12) (rs := []) (by kernel_rfl) .nil (all_one ?_)
  refine o_does rfl rfl rfl (g_store1 (cs' := [_, _]) sz_41 rfl rfl rfl rfl rfl rfl .here) ?_
  intro _ _
  refine d_end (by kernel_rfl) .nil ?_
  refine qR ?_
  refine lM rfl ?_
  refine lV (y_bin rfl rfl rfl (fitI (m := 4) (by omega) (by omega))) ?_
  refine lA rfl ?_
  refine nQ ?_
  refine c_seq ?_
  refine c_block ?_
  refine c_loop (ι := Nat × QSt × Sv × Int × Int × Int × Int) (φ := fun z => z.1 + 4 ≤ st.length ∧ z.1 % 8 = 0 ∧ st[z.1]? = some z.2.2.2.1 ∧ st[z.1 + 1]? = some z.2.2.2.2.1 ∧ st[z.1 + 2]? = some z.2.2.2.2.2.1 ∧ st[z.1 + 3]? = some z.2.2.2.2.2.2 ∧ turningQ false z.2.1 (st.drop z.1) = turningQ false q st ∧ z.2.1.Bd (M + z.1 * 2147483648) ∧ slOk z.2.2.1 z.2.1.out.length 7 (encG z.2.1.out) ∧ z.2.1.out.length ≤ q.out.length + z.1) (L' := fun z => [(0, .pointer (some ⟨bH, 0, none⟩)), (1, .pointer (some ⟨bM, 0, none⟩)), (4, .int .i32 ((z.1 + 4 : Nat) : Int)), (5, .pointer (some ⟨b5, 0, none⟩)), (6, .pointer (some ⟨b6, 0, none⟩)), (7, .pointer (some ⟨b7, 0, none⟩))]) (H' := fun z => (b7, [.float .f64 (F (z.2.1.x + z.2.2.2.2.1 + z.2.2.2.2.2.2)), .float .f64 (F (z.2.1.y + z.2.2.2.1 + z.2.2.2.2.2.1))], 50) :: (b6, [.float .f64 (F (z.2.1.x + z.2.2.2.2.1)), .float .f64 (F (z.2.1.y + z.2.2.2.1 + z.2.2.2.2.2.1))], 50) :: (b5, [.float .f64 (F z.2.1.x), .float .f64 (F (z.2.1.y + z.2.2.2.1))], 50) :: (HB bH z.2.2.1 z.2.1.out.length z.2.1.bx v5 v6 v7 z.2.1.x z.2.1.y z.2.1.fx z.2.1.fy z.2.1.io v13 ((z.2.1.bx).isSome) wd) :: slH z.2.2.1 (encG z.2.1.out) 77) (fun z => st.length - z.1) (0, q, so, a0, a1, a2, a3) ⟨by simp only; omega, rfl, h0, h1, h2, h3, rfl, hB0.mono (by simp), hok, Nat.le_refl _⟩ ⟨rfl, rfl, rfl, rfl, rfl, rfl, trivial⟩ (.cons .here (.cons .here (.cons .here (.cons .here .refl)))) ?_
  intro ⟨j, q1, so1, a0, a1, a2, a3⟩ ⟨hk, hke, h0, h1, h2, h3, hE, hB, hok1, hol⟩
  simp only at hk hke h0 h1 h2 h3 hE hB hok1 hol ⊢
  have n0 := at_opd hq h0
  have n1 := at_opd hq h1
  have n2 := at_opd hq h2
  have n3 := at_opd hq h3
  have hqx := nb hB.x
  have hqy := nb hB.y
  refine c_seq ?_
  refine cR ?_
  refine lM rfl ?_
  refine lV (y_bin rfl rfl rfl (fitI (m := j + 12) (by omega) (by omega))) ?_
  refine lM rfl ?_
  refine lN rfl ?_
  refine lV (y_fieldAddr fo_95_4 rfl) ?_
  refine lV (y_fieldAddr fo_91_1 rfl) ?_
  refine lV (y_oldLoad1 ld_21 rfl hMb hMS hMt) ?_
  refine lB rfl rfl rfl rfl ?_
  refine nQ ?_
  refine c_cond rfl (fun hc73 => ?_) (fun hc73 => ?_)
  ·have hk2 : j + 12 ≤ st.length := by simp only [decide_eq_true_eq] at hc73; omega
   obtain ⟨a4, h4⟩ := at_of (l := st) (i := j + 4) (by omega)
   have n4 := at_opd hq h4
   obtain ⟨a5, h5⟩ := at_of (l := st) (i := j + 5) (by omega)
   have n5 := at_opd hq h5
   obtain ⟨a6, h6⟩ := at_of (l := st) (i := j + 6) (by omega)
   have n6 := at_opd hq h6
   obtain ⟨a7, h7⟩ := at_of (l := st) (i := j + 7) (by omega)
   have n7 := at_opd hq h7
   obtain ⟨a8, h8⟩ := at_of (l := st) (i := j + 8) (by omega)
   have n8 := at_opd hq h8
   obtain ⟨a9, h9⟩ := at_of (l := st) (i := j + 9) (by omega)
   have n9 := at_opd hq h9
   obtain ⟨a10, h10⟩ := at_of (l := st) (i := j + 10) (by omega)
   have n10 := at_opd hq h10
   obtain ⟨a11, h11⟩ := at_of (l := st) (i := j + 11) (by omega)
   have n11 := at_opd hq h11
   have hd : st.drop j = a0 :: a1 :: a2 :: a3 :: a4 :: a5 :: a6 :: a7 :: st.drop (j + 8) := by rw [drop_cons h0, drop_cons h1, drop_cons h2, drop_cons h3, drop_cons h4, drop_cons h5, drop_cons h6, drop_cons h7]
   refine kQ ?_
   refine c_seq ?_
   refine c_block ?_
   refine cR ?_
   refine lM rfl ?_
   refine lV (y_loadN (vs := [_, _]) ld_50 rfl m2 rfl rfl) ?_
   refine lV (y_loadN (vs := [_, _]) ld_50 rfl m1 rfl rfl) ?_
   refine lV (y_loadN (vs := [_, _]) ld_50 rfl m0 rfl rfl) ?_
   refine l_call ok_151 rfl rfl (out_tail (A := [_, _, _]) (H1 := (HB bH so1 q1.out.length q1.bx v5 v6 v7 q1.x q1.y q1.fx q1.fy q1.io v13 ((q1.bx).isSome) wd) :: slH so1 (encG q1.out) 77) (fun w9 ha_ hb_ => f151_any w9 bH (M + (j + 8) * 2147483648) q1 so1 v5 v6 v7 v13 wd (Nat.lt_of_le_of_lt (show (M + (j + 8) * 2147483648) ≤ M + 60 * 2147483648 by omega) (by omega)) (hB.mono (by omega)) q1.x (q1.y + a0) (q1.x + a1) (q1.y + a0 + a2) (q1.x + a1 + a3) (q1.y + a0 + a2) (by omega) (by omega) (by omega) (by omega) (by omega) (by omega) hok1 (by omega) hb_)) ?_
   intro so_1 hok_1
   have hB_1 := curveA_bd (hB.mono (N := (M + (j + 8) * 2147483648)) (by omega)) (show (q1.x).natAbs ≤ _ by omega) (show ((q1.y + a0)).natAbs ≤ _ by omega) (show ((q1.x + a1)).natAbs ≤ _ by omega) (show ((q1.y + a0 + a2)).natAbs ≤ _ by omega) (show ((q1.x + a1 + a3)).natAbs ≤ _ by omega) (show ((q1.y + a0 + a2)).natAbs ≤ _ by omega)
   have hl_1 : (curveA q1 q1.x (q1.y + a0) (q1.x + a1) (q1.y + a0 + a2) (q1.x + a1 + a3) (q1.y + a0 + a2)).out.length = q1.out.length + 1 := curveA_len
   refine nR ?_
   refine lM rfl ?_
   refine lN rfl ?_
   refine lV (y_fieldAddr fo_97_5 rfl) ?_
   refine lV (y_loadN (vs := [_, _]) ld_50 rfl m3 rfl rfl) ?_
   refine l_does rfl rfl (g_storeN (vs := [_, _]) (cs' := [_, _]) sz_50 rfl rfl rfl rfl rfl rfl rfl (.there (.there .here))) ?_
   intro _ _
   refine nQ ?_
   refine c_seq ?_
   refine c_draw [] mixed rfl ?_
   refine dV 0 rfl (y_fieldAddr fo_50_0 rfl) ?_
   refine dM 2 rfl rfl ?_
   refine dM 3 rfl rfl ?_
   refine dN 4 rfl rfl ?_
   refine dV 5 rfl (y_fieldAddr fo_95_4 rfl) ?_
   refine dV 6 rfl (y_fieldAddr fo_91_0 rfl) ?_
   refine dV 7 rfl (y_indexArr (j := j + 4) ar_89 rfl rfl (blt513 (by omega))) ?_
   refine dV 8 rfl (y_oldLoad1 ld_41 rfl hMb hMS (hMv (j + 4) _ h4)) ?_
   refine d_ready (i := 1) (rs := []) (by kernel_rfl) .nil (all_one ?_)
   refine o_gives rfl rfl rfl (gy (y_load1 ld_41 rfl m2 rfl)) rfl ?_
   intro _ _
   refine dV 9 rfl (y_fadd (a := (q1.x + a1 + a3)) (b := a4) rfl rfl (by omega) (RF_F (by omega)) (by omega)) ?_
   refine dV 10 rfl (y_fieldAddr fo_50_0 rfl) ?_
   refine d_ready (i := 11) (rs := []) (by kernel_rfl) .nil (all_one ?_)
   refine o_does rfl rfl rfl (g_store1 (cs' := [_, _]) sz_41 rfl rfl rfl rfl rfl rfl (.there (.there .here))) ?_
   intro _ _
   refine d_end (by kernel_rfl) .nil ?_
   refine qR ?_
   refine lV (y_loadN (vs := [_, _]) ld_50 rfl m2 rfl rfl) ?_
   refine l_does rfl rfl (g_storeN (vs := [_, _]) (cs' := [_, _]) sz_50 rfl rfl rfl rfl rfl rfl rfl (.there .here)) ?_
   intro _ _
   refine nQ ?_
   refine c_seq ?_
   refine c_draw [] mixed rfl ?_
   refine dM 0 rfl rfl ?_
   refine dM 1 rfl rfl ?_
   refine dV 2 rfl (y_bin rfl rfl rfl (fitI (m := j + 5) (by omega) (by omega))) ?_
   refine dN 3 rfl rfl ?_
   refine dV 4 rfl (y_fieldAddr fo_95_4 rfl) ?_
   refine dV 5 rfl (y_fieldAddr fo_91_0 rfl) ?_
   refine dV 6 rfl (y_indexArr (j := j + 5) ar_89 rfl rfl (blt513 (by omega))) ?_
   refine dV 7 rfl (y_oldLoad1 ld_41 rfl hMb hMS (hMv (j + 5) _ h5)) ?_
   refine dM 8 rfl rfl ?_
   refine dM 9 rfl rfl ?_
   refine dV 10 rfl (y_bin rfl rfl rfl (fitI (m := j + 6) (by omega) (by omega))) ?_
   refine dN 11 rfl rfl ?_
   refine dV 12 rfl (y_fieldAddr fo_95_4 rfl) ?_
   refine dV 13 rfl (y_fieldAddr fo_91_0 rfl) ?_
   refine dV 14 rfl (y_indexArr (j := j + 6) ar_89 rfl rfl (blt513 (by omega))) ?_
   refine dV 15 rfl (y_oldLoad1 ld_41 rfl hMb hMS (hMv (j + 6) _ h6)) ?_
   refine d_ready (i := 16) (rs := []) (by kernel_rfl) .nil (all_one ?_)
   refine o_call rfl (no_guard rfl) ok_148 rfl rfl (out_one [_] (b := (b6, [] ++ (.float .f64 (F ((q1.x + a1 + a3) + a4)) :: .float .f64 (F (q1.y + a0 + a2)) :: []), 50)) (fun w9 ha_ hb_ => f148_any w9 b6 [] [] 50 ((q1.x + a1 + a3) + a4) (q1.y + a0 + a2) a5 a6 (F a5) (F a6) (by omega) (by omega) (RF_F (by omega)) (RF_F (by omega)) (by omega) (by omega) hb_)) ?_
   intro _ _
   refine d_end (by kernel_rfl) .nil ?_
   refine qR ?_
   refine lV (y_loadN (vs := [_, _]) ld_50 rfl m1 rfl rfl) ?_
   refine l_does rfl rfl (g_storeN (vs := [_, _]) (cs' := [_, _]) sz_50 rfl rfl rfl rfl rfl rfl rfl .here) ?_
   intro _ _
   refine nQ ?_
   refine c_seq ?_
   refine c_draw [] mixed rfl ?_
   refine dV 0 rfl (y_fieldAddr fo_50_1 rfl) ?_
   refine dM 2 rfl rfl ?_
   refine dM 3 rfl rfl ?_
   refine dV 4 rfl (y_bin rfl rfl rfl (fitI (m := j + 7) (by omega) (by omega))) ?_
   refine dN 5 rfl rfl ?_
   refine dV 6 rfl (y_fieldAddr fo_95_4 rfl) ?_
   refine dV 7 rfl (y_fieldAddr fo_91_0 rfl) ?_
   refine dV 8 rfl (y_indexArr (j := j + 7) ar_89 rfl rfl (blt513 (by omega))) ?_
   refine dV 9 rfl (y_oldLoad1 ld_41 rfl hMb hMS (hMv (j + 7) _ h7)) ?_
   refine d_ready (i := 1) (rs := []) (by kernel_rfl) .nil (all_one ?_)
   refine o_gives rfl rfl rfl (gy (y_load1 ld_41 rfl m0 rfl)) rfl ?_
   intro _ _
   refine dV 10 rfl (y_fadd (a := ((q1.y + a0 + a2) + a6)) (b := a7) rfl rfl (by omega) (RF_F (by omega)) (by omega)) ?_
   refine dV 11 rfl (y_fieldAddr fo_50_1 rfl) ?_
   refine d_ready (i := 12) (rs := []) (by kernel_rfl) .nil (all_one ?_)
   refine o_does rfl rfl rfl (g_store1 (cs' := [_, _]) sz_41 rfl rfl rfl rfl rfl rfl .here) ?_
   intro _ _
   refine d_end (by kernel_rfl) .nil ?_
   refine qR ?_
   refine lM rfl ?_
   refine lV (y_loadN (vs := [_, _]) ld_50 rfl m2 rfl rfl) ?_
   refine lV (y_loadN (vs := [_, _]) ld_50 rfl m1 rfl rfl) ?_
   refine lV (y_loadN (vs := [_, _]) ld_50 rfl m0 rfl rfl) ?_
   refine l_call ok_151 rfl rfl (out_tail (A := [_, _, _]) (H1 := (HB bH so_1 (curveA q1 q1.x (q1.y + a0) (q1.x + a1) (q1.y + a0 + a2) (q1.x + a1 + a3) (q1.y + a0 + a2)).out.length ((curveA q1 q1.x (q1.y + a0) (q1.x + a1) (q1.y + a0 + a2) (q1.x + a1 + a3) (q1.y + a0 + a2)).bx) v5 v6 v7 ((curveA q1 q1.x (q1.y + a0) (q1.x + a1) (q1.y + a0 + a2) (q1.x + a1 + a3) (q1.y + a0 + a2)).x) ((curveA q1 q1.x (q1.y + a0) (q1.x + a1) (q1.y + a0 + a2) (q1.x + a1 + a3) (q1.y + a0 + a2)).y) ((curveA q1 q1.x (q1.y + a0) (q1.x + a1) (q1.y + a0 + a2) (q1.x + a1 + a3) (q1.y + a0 + a2)).fx) ((curveA q1 q1.x (q1.y + a0) (q1.x + a1) (q1.y + a0 + a2) (q1.x + a1 + a3) (q1.y + a0 + a2)).fy) ((curveA q1 q1.x (q1.y + a0) (q1.x + a1) (q1.y + a0 + a2) (q1.x + a1 + a3) (q1.y + a0 + a2)).io) v13 (((curveA q1 q1.x (q1.y + a0) (q1.x + a1) (q1.y + a0 + a2) (q1.x + a1 + a3) (q1.y + a0 + a2)).bx).isSome) wd) :: slH so_1 (encG (curveA q1 q1.x (q1.y + a0) (q1.x + a1) (q1.y + a0 + a2) (q1.x + a1 + a3) (q1.y + a0 + a2)).out) 77) (fun w9 ha_ hb_ => f151_any w9 bH (M + (j + 8) * 2147483648) (curveA q1 q1.x (q1.y + a0) (q1.x + a1) (q1.y + a0 + a2) (q1.x + a1 + a3) (q1.y + a0 + a2)) so_1 v5 v6 v7 v13 wd (Nat.lt_of_le_of_lt (show (M + (j + 8) * 2147483648) ≤ M + 60 * 2147483648 by omega) (by omega)) (hB_1.mono (by omega)) ((q1.x + a1 + a3) + a4) (q1.y + a0 + a2) (((q1.x + a1 + a3) + a4) + a5) ((q1.y + a0 + a2) + a6) (((q1.x + a1 + a3) + a4) + a5) (((q1.y + a0 + a2) + a6) + a7) (by omega) (by omega) (by omega) (by omega) (by omega) (by omega) hok_1 (by omega) hb_)) ?_
   intro so_2 hok_2
   have hB_2 := curveA_bd (hB_1.mono (N := (M + (j + 8) * 2147483648)) (by omega)) (show (((q1.x + a1 + a3) + a4)).natAbs ≤ _ by omega) (show ((q1.y + a0 + a2)).natAbs ≤ _ by omega) (show ((((q1.x + a1 + a3) + a4) + a5)).natAbs ≤ _ by omega) (show (((q1.y + a0 + a2) + a6)).natAbs ≤ _ by omega) (show ((((q1.x + a1 + a3) + a4) + a5)).natAbs ≤ _ by omega) (show ((((q1.y + a0 + a2) + a6) + a7)).natAbs ≤ _ by omega)
   have hl_2 : (curveA (curveA q1 q1.x (q1.y + a0) (q1.x + a1) (q1.y + a0 + a2) (q1.x + a1 + a3) (q1.y + a0 + a2)) ((q1.x + a1 + a3) + a4) (q1.y + a0 + a2) (((q1.x + a1 + a3) + a4) + a5) ((q1.y + a0 + a2) + a6) (((q1.x + a1 + a3) + a4) + a5) (((q1.y + a0 + a2) + a6) + a7)).out.length = (curveA q1 q1.x (q1.y + a0) (q1.x + a1) (q1.y + a0 + a2) (q1.x + a1 + a3) (q1.y + a0 + a2)).out.length + 1 := curveA_len
   refine nR ?_
   refine lV (y_loadN (vs := [_, _]) ld_50 rfl m0 rfl rfl) ?_
   refine l_does rfl rfl (g_storeN (vs := [_, _]) (cs' := [_, _]) sz_50 rfl rfl rfl rfl rfl rfl rfl (.there (.there .here))) ?_
   intro _ _
   refine nQ ?_
   refine c_seq ?_
   refine c_draw [] mixed rfl ?_
   refine dV 0 rfl (y_fieldAddr fo_50_1 rfl) ?_
   refine dM 2 rfl rfl ?_
   refine dM 3 rfl rfl ?_
   refine dV 4 rfl (y_bin rfl rfl rfl (fitI (m := j + 8) (by omega) (by omega))) ?_
   refine dN 5 rfl rfl ?_
   refine dV 6 rfl (y_fieldAddr fo_95_4 rfl) ?_
   refine dV 7 rfl (y_fieldAddr fo_91_0 rfl) ?_
   refine dV 8 rfl (y_indexArr (j := j + 8) ar_89 rfl rfl (blt513 (by omega))) ?_
   refine dV 9 rfl (y_oldLoad1 ld_41 rfl hMb hMS (hMv (j + 8) _ h8)) ?_
   refine d_ready (i := 1) (rs := []) (by kernel_rfl) .nil (all_one ?_)
   refine o_gives rfl rfl rfl (gy (y_load1 ld_41 rfl m2 rfl)) rfl ?_
   intro _ _
   refine dV 10 rfl (y_fadd (a := (((q1.y + a0 + a2) + a6) + a7)) (b := a8) rfl rfl (by omega) (RF_F (by omega)) (by omega)) ?_
   refine dV 11 rfl (y_fieldAddr fo_50_1 rfl) ?_
   refine d_ready (i := 12) (rs := []) (by kernel_rfl) .nil (all_one ?_)
   refine o_does rfl rfl rfl (g_store1 (cs' := [_, _]) sz_41 rfl rfl rfl rfl rfl rfl (.there (.there .here))) ?_
   intro _ _
   refine d_end (by kernel_rfl) .nil ?_
   refine qR ?_
   refine lV (y_loadN (vs := [_, _]) ld_50 rfl m2 rfl rfl) ?_
   refine l_does rfl rfl (g_storeN (vs := [_, _]) (cs' := [_, _]) sz_50 rfl rfl rfl rfl rfl rfl rfl (.there .here)) ?_
   intro _ _
   refine nQ ?_
   refine c_seq ?_
   refine c_draw [] mixed rfl ?_
   refine dM 0 rfl rfl ?_
   refine dM 1 rfl rfl ?_
   refine dV 2 rfl (y_bin rfl rfl rfl (fitI (m := j + 9) (by omega) (by omega))) ?_
   refine dN 3 rfl rfl ?_
   refine dV 4 rfl (y_fieldAddr fo_95_4 rfl) ?_
   refine dV 5 rfl (y_fieldAddr fo_91_0 rfl) ?_
   refine dV 6 rfl (y_indexArr (j := j + 9) ar_89 rfl rfl (blt513 (by omega))) ?_
   refine dV 7 rfl (y_oldLoad1 ld_41 rfl hMb hMS (hMv (j + 9) _ h9)) ?_
   refine dM 8 rfl rfl ?_
   refine dM 9 rfl rfl ?_
   refine dV 10 rfl (y_bin rfl rfl rfl (fitI (m := j + 10) (by omega) (by omega))) ?_
   refine dN 11 rfl rfl ?_
   refine dV 12 rfl (y_fieldAddr fo_95_4 rfl) ?_
   refine dV 13 rfl (y_fieldAddr fo_91_0 rfl) ?_
   refine dV 14 rfl (y_indexArr (j := j + 10) ar_89 rfl rfl (blt513 (by omega))) ?_
   refine dV 15 rfl (y_oldLoad1 ld_41 rfl hMb hMS (hMv (j + 10) _ h10)) ?_
   refine d_ready (i := 16) (rs := []) (by kernel_rfl) .nil (all_one ?_)
   refine o_call rfl (no_guard rfl) ok_148 rfl rfl (out_one [_] (b := (b6, [] ++ (.float .f64 (F (((q1.x + a1 + a3) + a4) + a5)) :: .float .f64 (F ((((q1.y + a0 + a2) + a6) + a7) + a8)) :: []), 50)) (fun w9 ha_ hb_ => f148_any w9 b6 [] [] 50 (((q1.x + a1 + a3) + a4) + a5) ((((q1.y + a0 + a2) + a6) + a7) + a8) a9 a10 (F a9) (F a10) (by omega) (by omega) (RF_F (by omega)) (RF_F (by omega)) (by omega) (by omega) hb_)) ?_
   intro _ _
   refine d_end (by kernel_rfl) .nil ?_
   refine qR ?_
   refine lV (y_loadN (vs := [_, _]) ld_50 rfl m1 rfl rfl) ?_
   refine l_does rfl rfl (g_storeN (vs := [_, _]) (cs' := [_, _]) sz_50 rfl rfl rfl rfl rfl rfl rfl .here) ?_
   intro _ _
   refine nQ ?_
   refine c_draw [] mixed rfl ?_
   refine dV 0 rfl (y_fieldAddr fo_50_0 rfl) ?_
   refine dM 2 rfl rfl ?_
   refine dM 3 rfl rfl ?_
   refine dV 4 rfl (y_bin rfl rfl rfl (fitI (m := j + 11) (by omega) (by omega))) ?_
   refine dN 5 rfl rfl ?_
   refine dV 6 rfl (y_fieldAddr fo_95_4 rfl) ?_
   refine dV 7 rfl (y_fieldAddr fo_91_0 rfl) ?_
   refine dV 8 rfl (y_indexArr (j := j + 11) ar_89 rfl rfl (blt513 (by omega))) ?_
   refine dV 9 rfl (y_oldLoad1 ld_41 rfl hMb hMS (hMv (j + 11) _ h11)) ?_
   refine d_ready (i := 1) (rs := []) (by kernel_rfl) .nil (all_one ?_)
   refine o_gives rfl rfl rfl (gy (y_load1 ld_41 rfl m0 rfl)) rfl ?_
   intro _ _
   refine dV 10 rfl (y_fadd (a := ((((q1.x + a1 + a3) + a4) + a5) + a9)) (b := a11) rfl rfl (by omega) (RF_F (by omega)) (by omega)) ?_
   refine dV 11 rfl (y_fieldAddr fo_50_0 rfl) ?_
   refine d_ready (i := 12) (rs := []) (by kernel_rfl) .nil (all_one ?_)
   refine o_does rfl rfl rfl (g_store1 (cs' := [_, _]) sz_41 rfl rfl rfl rfl rfl rfl .here) ?_
   intro _ _
   refine d_end (by kernel_rfl) .nil ?_
   refine q_block ?_
   refine qG ?_
   refine lM rfl ?_
   refine lV (y_bin rfl rfl rfl (fitI (m := j + 12) (by omega) (by omega))) ?_
   refine lA rfl ?_
   refine l_nil ?_
   exact q_rnd (j + 8, (curveA (curveA q1 q1.x (q1.y + a0) (q1.x + a1) (q1.y + a0 + a2) (q1.x + a1 + a3) (q1.y + a0 + a2)) ((q1.x + a1 + a3) + a4) (q1.y + a0 + a2) (((q1.x + a1 + a3) + a4) + a5) ((q1.y + a0 + a2) + a6) (((q1.x + a1 + a3) + a4) + a5) (((q1.y + a0 + a2) + a6) + a7)), so_2, a8, a9, a10, a11) ⟨by simp only; omega, by simp only; omega, h8, h9, h10, h11, (by rw [← hE, hd, turn2_f, lastQ_ge (by rw [List.length_drop]; omega), curveQ_f0, curveQ_t0] <;> rfl), hB_2, hok_2, by simp only; omega⟩ (by simp only; omega) ⟨rfl, rfl, rfl, rfl, rfl, rfl, trivial⟩ (.cons .here (.cons .here (.cons .here (.cons .here .refl))))
  ·have hk3 : st.length < j + 12 := by simp only [decide_eq_false_iff_not] at hc73; omega
   refine c_exit ?_
   refine q_then_exit ?_
   refine q_rnd_exit ?_
   refine q_block_exit ?_
   refine q_then ?_
   refine c_seq ?_
   refine cR ?_
   refine lM rfl ?_
   refine lM rfl ?_
   refine lN rfl ?_
   refine lV (y_fieldAddr fo_95_4 rfl) ?_
   refine lV (y_fieldAddr fo_91_1 rfl) ?_
   refine lV (y_oldLoad1 ld_21 rfl hMb hMS hMt) ?_
   refine lB rfl rfl rfl rfl ?_
   refine nQ ?_
   refine c_cond rfl (fun hc182 => ?_) (fun hc182 => ?_)
   ·have hk4 : st.length = j + 5 := by simp only [decide_eq_true_eq] at hc182; omega
    obtain ⟨a4, h4⟩ := at_of (l := st) (i := j + 4) (by omega)
    have n4 := at_opd hq h4
    have hd : st.drop j = [a0, a1, a2, a3, a4] := by rw [drop_cons h0, drop_cons h1, drop_cons h2, drop_cons h3, drop_cons h4, List.drop_of_length_le (by omega)]
    refine c_draw [] mixed rfl ?_
    refine dV 0 rfl (y_fieldAddr fo_50_1 rfl) ?_
    refine dM 2 rfl rfl ?_
    refine dM 3 rfl rfl ?_
    refine dN 4 rfl rfl ?_
    refine dV 5 rfl (y_fieldAddr fo_95_4 rfl) ?_
    refine dV 6 rfl (y_fieldAddr fo_91_0 rfl) ?_
    refine dV 7 rfl (y_indexArr (j := j + 4) ar_89 rfl rfl (blt513 (by omega))) ?_
    refine dV 8 rfl (y_oldLoad1 ld_41 rfl hMb hMS (hMv (j + 4) _ h4)) ?_
    refine d_ready (i := 1) (rs := []) (by kernel_rfl) .nil (all_one ?_)
    refine o_gives rfl rfl rfl (gy (y_load1 ld_41 rfl m0 rfl)) rfl ?_
    intro _ _
    refine dV 9 rfl (y_fadd (a := (q1.y + a0 + a2)) (b := a4) rfl rfl (by omega) (RF_F (by omega)) (by omega)) ?_
    refine dV 10 rfl (y_fieldAddr fo_50_1 rfl) ?_
    refine d_ready (i := 11) (rs := []) (by kernel_rfl) .nil (all_one ?_)
    refine o_does rfl rfl rfl (g_store1 (cs' := [_, _]) sz_41 rfl rfl rfl rfl rfl rfl .here) ?_
    intro _ _
    refine d_end (by kernel_rfl) .nil ?_
    refine qG ?_
    refine lM rfl ?_
    refine lV (y_loadN (vs := [_, _]) ld_50 rfl m2 rfl rfl) ?_
    refine lV (y_loadN (vs := [_, _]) ld_50 rfl m1 rfl rfl) ?_
    refine lV (y_loadN (vs := [_, _]) ld_50 rfl m0 rfl rfl) ?_
    refine l_call ok_151 rfl rfl (out_tail (A := [_, _, _]) (H1 := (HB bH so1 q1.out.length q1.bx v5 v6 v7 q1.x q1.y q1.fx q1.fy q1.io v13 ((q1.bx).isSome) wd) :: slH so1 (encG q1.out) 77) (fun w9 ha_ hb_ => f151_any w9 bH (M + (j + 8) * 2147483648) q1 so1 v5 v6 v7 v13 wd (Nat.lt_of_le_of_lt (show (M + (j + 8) * 2147483648) ≤ M + 60 * 2147483648 by omega) (by omega)) (hB.mono (by omega)) q1.x (q1.y + a0) (q1.x + a1) (q1.y + a0 + a2) (q1.x + a1 + a3) ((q1.y + a0 + a2) + a4) (by omega) (by omega) (by omega) (by omega) (by omega) (by omega) hok1 (by omega) hb_)) ?_
    intro so_3 hok_3
    have hB_3 := curveA_bd (hB.mono (N := (M + (j + 8) * 2147483648)) (by omega)) (show (q1.x).natAbs ≤ _ by omega) (show ((q1.y + a0)).natAbs ≤ _ by omega) (show ((q1.x + a1)).natAbs ≤ _ by omega) (show ((q1.y + a0 + a2)).natAbs ≤ _ by omega) (show ((q1.x + a1 + a3)).natAbs ≤ _ by omega) (show (((q1.y + a0 + a2) + a4)).natAbs ≤ _ by omega)
    have hl_3 : (curveA q1 q1.x (q1.y + a0) (q1.x + a1) (q1.y + a0 + a2) (q1.x + a1 + a3) ((q1.y + a0 + a2) + a4)).out.length = q1.out.length + 1 := curveA_len
    refine l_nil ?_
    have hE2 : (curveA q1 q1.x (q1.y + a0) (q1.x + a1) (q1.y + a0 + a2) (q1.x + a1 + a3) ((q1.y + a0 + a2) + a4)) = turningQ false q st := by rw [← hE, hd, turn1_f (by simp), curveQ_f] <;> rfl
    rw [← hE2]
    exact body_ret (rs := []) rfl (vs := []) trivial (out_end so_3 hok_3 rfl (.cons (.there (.there (.there .here))) (.skip (.skip (.skip .refl))))) _ (.inl rfl)
   ·have hk4 : st.length = j + 4 := by simp only [decide_eq_false_iff_not] at hc182; omega
    have hd : st.drop j = [a0, a1, a2, a3] := by rw [drop_cons h0, drop_cons h1, drop_cons h2, drop_cons h3, List.drop_of_length_le (by omega)]
    refine kG ?_
    refine lM rfl ?_
    refine lV (y_loadN (vs := [_, _]) ld_50 rfl m2 rfl rfl) ?_
    refine lV (y_loadN (vs := [_, _]) ld_50 rfl m1 rfl rfl) ?_
    refine lV (y_loadN (vs := [_, _]) ld_50 rfl m0 rfl rfl) ?_
    refine l_call ok_151 rfl rfl (out_tail (A := [_, _, _]) (H1 := (HB bH so1 q1.out.length q1.bx v5 v6 v7 q1.x q1.y q1.fx q1.fy q1.io v13 ((q1.bx).isSome) wd) :: slH so1 (encG q1.out) 77) (fun w9 ha_ hb_ => f151_any w9 bH (M + (j + 8) * 2147483648) q1 so1 v5 v6 v7 v13 wd (Nat.lt_of_le_of_lt (show (M + (j + 8) * 2147483648) ≤ M + 60 * 2147483648 by omega) (by omega)) (hB.mono (by omega)) q1.x (q1.y + a0) (q1.x + a1) (q1.y + a0 + a2) (q1.x + a1 + a3) (q1.y + a0 + a2) (by omega) (by omega) (by omega) (by omega) (by omega) (by omega) hok1 (by omega) hb_)) ?_
    intro so_4 hok_4
    have hB_4 := curveA_bd (hB.mono (N := (M + (j + 8) * 2147483648)) (by omega)) (show (q1.x).natAbs ≤ _ by omega) (show ((q1.y + a0)).natAbs ≤ _ by omega) (show ((q1.x + a1)).natAbs ≤ _ by omega) (show ((q1.y + a0 + a2)).natAbs ≤ _ by omega) (show ((q1.x + a1 + a3)).natAbs ≤ _ by omega) (show ((q1.y + a0 + a2)).natAbs ≤ _ by omega)
    have hl_4 : (curveA q1 q1.x (q1.y + a0) (q1.x + a1) (q1.y + a0 + a2) (q1.x + a1 + a3) (q1.y + a0 + a2)).out.length = q1.out.length + 1 := curveA_len
    refine l_nil ?_
    have hE2 : (curveA q1 q1.x (q1.y + a0) (q1.x + a1) (q1.y + a0 + a2) (q1.x + a1 + a3) (q1.y + a0 + a2)) = turningQ false q st := by rw [← hE, hd, turn1_f (by simp), show lastQ [] = 0 from rfl, curveQ_f0] <;> rfl
    rw [← hE2]
    exact body_ret (rs := []) rfl (vs := []) trivial (out_end so_4 hok_4 rfl (.cons (.there (.there (.there .here))) (.skip (.skip (.skip .refl))))) _ (.inl rfl)
 ·have h84 : st.length % 8 < 4 := by simp only [decide_eq_false_iff_not] at hc17; omega
  refine c_block ?_
  refine c_loop (ι := Nat × QSt × Sv) (φ := fun z => z.1 ≤ st.length ∧ z.1 % 8 = 0 ∧ turningQ false z.2.1 (st.drop z.1) = turningQ false q st ∧ z.2.1.Bd (M + z.1 * 2147483648) ∧ slOk z.2.2 z.2.1.out.length 7 (encG z.2.1.out) ∧ z.2.1.out.length ≤ q.out.length + z.1) (L' := fun z => [(0, .pointer (some ⟨bH, 0, none⟩)), (1, .pointer (some ⟨bM, 0, none⟩)), (4, .int .i32 (z.1 : Nat))]) (H' := fun z => (HB bH z.2.2 z.2.1.out.length z.2.1.bx v5 v6 v7 z.2.1.x z.2.1.y z.2.1.fx z.2.1.fy z.2.1.io v13 ((z.2.1.bx).isSome) wd) :: slH z.2.2 (encG z.2.1.out) 77) (fun z => st.length - z.1) (0, q, so) ⟨Nat.zero_le _, rfl, rfl, by simpa using hB0, hok, Nat.le_refl _⟩ ⟨rfl, rfl, rfl, trivial⟩ (.cons .here .refl) ?_
  intro ⟨k, q1, so1⟩ ⟨hk, hke, hE, hB, hok1, hol⟩
  simp only at hk hke hE hB hok1 hol ⊢
  have hqx := nb hB.x
  have hqy := nb hB.y
  refine c_seq ?_
  refine cR ?_
  refine lM rfl ?_
  refine lV (y_bin rfl rfl rfl (fitI (m := k + 8) (by omega) (by omega))) ?_
  refine lM rfl ?_
  refine lN rfl ?_
  refine lV (y_fieldAddr fo_95_4 rfl) ?_
  refine lV (y_fieldAddr fo_91_1 rfl) ?_
  refine lV (y_oldLoad1 ld_21 rfl hMb hMS hMt) ?_
  refine lB rfl rfl rfl rfl ?_
  refine nQ ?_
  refine c_cond rfl (fun hc206 => ?_) (fun hc206 => ?_)
  ·have hk2 : k + 8 ≤ st.length := by simp only [decide_eq_true_eq] at hc206; omega
   obtain ⟨a0, h0⟩ := at_of (l := st) (i := k) (by omega)
   have n0 := at_opd hq h0
   obtain ⟨a1, h1⟩ := at_of (l := st) (i := k + 1) (by omega)
   have n1 := at_opd hq h1
   obtain ⟨a2, h2⟩ := at_of (l := st) (i := k + 2) (by omega)
   have n2 := at_opd hq h2
   obtain ⟨a3, h3⟩ := at_of (l := st) (i := k + 3) (by omega)
   have n3 := at_opd hq h3
   obtain ⟨a4, h4⟩ := at_of (l := st) (i := k + 4) (by omega)
   have n4 := at_opd hq h4
   obtain ⟨a5, h5⟩ := at_of (l := st) (i := k + 5) (by omega)
   have n5 := at_opd hq h5
   obtain ⟨a6, h6⟩ := at_of (l := st) (i := k + 6) (by omega)
   have n6 := at_opd hq h6
   obtain ⟨a7, h7⟩ := at_of (l := st) (i := k + 7) (by omega)
   have n7 := at_opd hq h7
   have hd : st.drop k = a0 :: a1 :: a2 :: a3 :: a4 :: a5 :: a6 :: a7 :: st.drop (k + 8) := by rw [drop_cons h0, drop_cons h1, drop_cons h2, drop_cons h3, drop_cons h4, drop_cons h5, drop_cons h6, drop_cons h7]
   refine kQ ?_
   refine c_seq ?_
   refine c_block ?_
   refine cR ?_
   refine lM rfl ?_
   refine lN rfl ?_
   refine lV (y_fieldAddr fo_97_5 rfl) ?_
   refine lV (y_loadN (vs := [_, _]) ld_50 rfl m0 rfl rfl) ?_
   refine l_gives rfl rfl (g_alloc ze_50) rfl ?_
   intro b8 hb8
   refine l_does rfl rfl (g_storeN (vs := [_, _]) (cs' := [_, _]) sz_50 rfl rfl rfl rfl rfl rfl rfl .here) ?_
   intro _ _
   refine nQ ?_
   refine c_seq ?_
   refine c_draw [] mixed rfl ?_
   refine dV 0 rfl (y_fieldAddr fo_50_1 rfl) ?_
   refine dM 2 rfl rfl ?_
   refine dM 3 rfl rfl ?_
   refine dN 4 rfl rfl ?_
   refine dV 5 rfl (y_fieldAddr fo_95_4 rfl) ?_
   refine dV 6 rfl (y_fieldAddr fo_91_0 rfl) ?_
   refine dV 7 rfl (y_indexArr (j := k) ar_89 rfl rfl (blt513 (by omega))) ?_
   refine dV 8 rfl (y_oldLoad1 ld_41 rfl hMb hMS (hMv (k) _ h0)) ?_
   refine d_ready (i := 1) (rs := []) (by kernel_rfl) .nil (all_one ?_)
   refine o_gives rfl rfl rfl (gy (y_load1 ld_41 rfl m0 rfl)) rfl ?_
   intro _ _
   refine dV 9 rfl (y_fadd (a := q1.y) (b := a0) rfl rfl (by omega) (RF_F (by omega)) (by omega)) ?_
   refine dV 10 rfl (y_fieldAddr fo_50_1 rfl) ?_
   refine d_ready (i := 11) (rs := []) (by kernel_rfl) .nil (all_one ?_)
   refine o_does rfl rfl rfl (g_store1 (cs' := [_, _]) sz_41 rfl rfl rfl rfl rfl rfl .here) ?_
   intro _ _
   refine d_end (by kernel_rfl) .nil ?_
   refine qR ?_
   refine lV (y_loadN (vs := [_, _]) ld_50 rfl m0 rfl rfl) ?_
   refine l_gives rfl rfl (g_alloc ze_50) rfl ?_
   intro b9 hb9
   refine l_does rfl rfl (g_storeN (vs := [_, _]) (cs' := [_, _]) sz_50 rfl rfl rfl rfl rfl rfl rfl .here) ?_
   intro _ _
   refine nQ ?_
   refine c_seq ?_
   refine c_draw [] mixed rfl ?_
   refine dM 0 rfl rfl ?_
   refine dM 1 rfl rfl ?_
   refine dV 2 rfl (y_bin rfl rfl rfl (fitI (m := k + 1) (by omega) (by omega))) ?_
   refine dN 3 rfl rfl ?_
   refine dV 4 rfl (y_fieldAddr fo_95_4 rfl) ?_
   refine dV 5 rfl (y_fieldAddr fo_91_0 rfl) ?_
   refine dV 6 rfl (y_indexArr (j := k + 1) ar_89 rfl rfl (blt513 (by omega))) ?_
   refine dV 7 rfl (y_oldLoad1 ld_41 rfl hMb hMS (hMv (k + 1) _ h1)) ?_
   refine dM 8 rfl rfl ?_
   refine dM 9 rfl rfl ?_
   refine dV 10 rfl (y_bin rfl rfl rfl (fitI (m := k + 2) (by omega) (by omega))) ?_
   refine dN 11 rfl rfl ?_
   refine dV 12 rfl (y_fieldAddr fo_95_4 rfl) ?_
   refine dV 13 rfl (y_fieldAddr fo_91_0 rfl) ?_
   refine dV 14 rfl (y_indexArr (j := k + 2) ar_89 rfl rfl (blt513 (by omega))) ?_
   refine dV 15 rfl (y_oldLoad1 ld_41 rfl hMb hMS (hMv (k + 2) _ h2)) ?_
   refine d_ready (i := 16) (rs := []) (by kernel_rfl) .nil (all_one ?_)
   refine o_call rfl (no_guard rfl) ok_148 rfl rfl (out_one [] (b := (b9, [] ++ (.float .f64 (F q1.x) :: .float .f64 (F (q1.y + a0)) :: []), 50)) (fun w9 ha_ hb_ => f148_any w9 b9 [] [] 50 q1.x (q1.y + a0) a1 a2 (F a1) (F a2) (by omega) (by omega) (RF_F (by omega)) (RF_F (by omega)) (by omega) (by omega) hb_)) ?_
   intro _ _
   refine d_end (by kernel_rfl) .nil ?_
   refine qR ?_
   refine lV (y_loadN (vs := [_, _]) ld_50 rfl m0 rfl rfl) ?_
   refine l_gives rfl rfl (g_alloc ze_50) rfl ?_
   intro b10 hb10
   refine l_does rfl rfl (g_storeN (vs := [_, _]) (cs' := [_, _]) sz_50 rfl rfl rfl rfl rfl rfl rfl .here) ?_
   intro _ _
   refine nQ ?_
   refine c_seq ?_
   refine c_draw [] mixed rfl ?_
   refine dV 0 rfl (y_fieldAddr fo_50_0 rfl) ?_
   refine dM 2 rfl rfl ?_
   refine dM 3 rfl rfl ?_
   refine dV 4 rfl (y_bin rfl rfl rfl (fitI (m := k + 3) (by omega) (by omega))) ?_
   refine dN 5 rfl rfl ?_
   refine dV 6 rfl (y_fieldAddr fo_95_4 rfl) ?_
   refine dV 7 rfl (y_fieldAddr fo_91_0 rfl) ?_
   refine dV 8 rfl (y_indexArr (j := k + 3) ar_89 rfl rfl (blt513 (by omega))) ?_
   refine dV 9 rfl (y_oldLoad1 ld_41 rfl hMb hMS (hMv (k + 3) _ h3)) ?_
   refine d_ready (i := 1) (rs := []) (by kernel_rfl) .nil (all_one ?_)
   refine o_gives rfl rfl rfl (gy (y_load1 ld_41 rfl m0 rfl)) rfl ?_
   intro _ _
   refine dV 10 rfl (y_fadd (a := (q1.x + a1)) (b := a3) rfl rfl (by omega) (RF_F (by omega)) (by omega)) ?_
   refine dV 11 rfl (y_fieldAddr fo_50_0 rfl) ?_
   refine d_ready (i := 12) (rs := []) (by kernel_rfl) .nil (all_one ?_)
   refine o_does rfl rfl rfl (g_store1 (cs' := [_, _]) sz_41 rfl rfl rfl rfl rfl rfl .here) ?_
   intro _ _
   refine d_end (by kernel_rfl) .nil ?_
   refine qR ?_
   refine lM rfl ?_
   refine lV (y_loadN (vs := [_, _]) ld_50 rfl m2 rfl rfl) ?_
   refine lV (y_loadN (vs := [_, _]) ld_50 rfl m1 rfl rfl) ?_
   refine lV (y_loadN (vs := [_, _]) ld_50 rfl m0 rfl rfl) ?_
   refine l_call ok_151 rfl rfl (out_tail (A := [_, _, _]) (H1 := (HB bH so1 q1.out.length q1.bx v5 v6 v7 q1.x q1.y q1.fx q1.fy q1.io v13 ((q1.bx).isSome) wd) :: slH so1 (encG q1.out) 77) (fun w9 ha_ hb_ => f151_any w9 bH (M + (k + 8) * 2147483648) q1 so1 v5 v6 v7 v13 wd (Nat.lt_of_le_of_lt (show (M + (k + 8) * 2147483648) ≤ M + 60 * 2147483648 by omega) (by omega)) (hB.mono (by omega)) q1.x (q1.y + a0) (q1.x + a1) ((q1.y + a0) + a2) ((q1.x + a1) + a3) ((q1.y + a0) + a2) (by omega) (by omega) (by omega) (by omega) (by omega) (by omega) hok1 (by omega) hb_)) ?_
   intro so_1 hok_1
   have hB_1 := curveA_bd (hB.mono (N := (M + (k + 8) * 2147483648)) (by omega)) (show (q1.x).natAbs ≤ _ by omega) (show ((q1.y + a0)).natAbs ≤ _ by omega) (show ((q1.x + a1)).natAbs ≤ _ by omega) (show (((q1.y + a0) + a2)).natAbs ≤ _ by omega) (show (((q1.x + a1) + a3)).natAbs ≤ _ by omega) (show (((q1.y + a0) + a2)).natAbs ≤ _ by omega)
   have hl_1 : (curveA q1 q1.x (q1.y + a0) (q1.x + a1) ((q1.y + a0) + a2) ((q1.x + a1) + a3) ((q1.y + a0) + a2)).out.length = q1.out.length + 1 := curveA_len
   refine nR ?_
   refine lV (y_loadN (vs := [_, _]) ld_50 rfl m0 rfl rfl) ?_
   refine l_does rfl rfl (g_storeN (vs := [_, _]) (cs' := [_, _]) sz_50 rfl rfl rfl rfl rfl rfl rfl (.there (.there .here))) ?_
   intro _ _
   refine nQ ?_
   refine c_seq ?_
   refine c_draw [] mixed rfl ?_
   refine dV 0 rfl (y_fieldAddr fo_50_0 rfl) ?_
   refine dM 2 rfl rfl ?_
   refine dM 3 rfl rfl ?_
   refine dV 4 rfl (y_bin rfl rfl rfl (fitI (m := k + 4) (by omega) (by omega))) ?_
   refine dN 5 rfl rfl ?_
   refine dV 6 rfl (y_fieldAddr fo_95_4 rfl) ?_
   refine dV 7 rfl (y_fieldAddr fo_91_0 rfl) ?_
   refine dV 8 rfl (y_indexArr (j := k + 4) ar_89 rfl rfl (blt513 (by omega))) ?_
   refine dV 9 rfl (y_oldLoad1 ld_41 rfl hMb hMS (hMv (k + 4) _ h4)) ?_
   refine d_ready (i := 1) (rs := []) (by kernel_rfl) .nil (all_one ?_)
   refine o_gives rfl rfl rfl (gy (y_load1 ld_41 rfl m2 rfl)) rfl ?_
   intro _ _
   refine dV 10 rfl (y_fadd (a := ((q1.x + a1) + a3)) (b := a4) rfl rfl (by omega) (RF_F (by omega)) (by omega)) ?_
   refine dV 11 rfl (y_fieldAddr fo_50_0 rfl) ?_
   refine d_ready (i := 12) (rs := []) (by kernel_rfl) .nil (all_one ?_)
   refine o_does rfl rfl rfl (g_store1 (cs' := [_, _]) sz_41 rfl rfl rfl rfl rfl rfl (.there (.there .here))) ?_
   intro _ _
   refine d_end (by kernel_rfl) .nil ?_
   refine qR ?_
   refine lV (y_loadN (vs := [_, _]) ld_50 rfl m2 rfl rfl) ?_
   refine l_does rfl rfl (g_storeN (vs := [_, _]) (cs' := [_, _]) sz_50 rfl rfl rfl rfl rfl rfl rfl (.there .here)) ?_
   intro _ _
   refine nQ ?_
   refine c_seq ?_
   refine c_draw [] mixed rfl ?_
   refine dM 0 rfl rfl ?_
   refine dM 1 rfl rfl ?_
   refine dV 2 rfl (y_bin rfl rfl rfl (fitI (m := k + 5) (by omega) (by omega))) ?_
   refine dN 3 rfl rfl ?_
   refine dV 4 rfl (y_fieldAddr fo_95_4 rfl) ?_
   refine dV 5 rfl (y_fieldAddr fo_91_0 rfl) ?_
   refine dV 6 rfl (y_indexArr (j := k + 5) ar_89 rfl rfl (blt513 (by omega))) ?_
   refine dV 7 rfl (y_oldLoad1 ld_41 rfl hMb hMS (hMv (k + 5) _ h5)) ?_
   refine dM 8 rfl rfl ?_
   refine dM 9 rfl rfl ?_
   refine dV 10 rfl (y_bin rfl rfl rfl (fitI (m := k + 6) (by omega) (by omega))) ?_
   refine dN 11 rfl rfl ?_
   refine dV 12 rfl (y_fieldAddr fo_95_4 rfl) ?_
   refine dV 13 rfl (y_fieldAddr fo_91_0 rfl) ?_
   refine dV 14 rfl (y_indexArr (j := k + 6) ar_89 rfl rfl (blt513 (by omega))) ?_
   refine dV 15 rfl (y_oldLoad1 ld_41 rfl hMb hMS (hMv (k + 6) _ h6)) ?_
   refine d_ready (i := 16) (rs := []) (by kernel_rfl) .nil (all_one ?_)
   refine o_call rfl (no_guard rfl) ok_148 rfl rfl (out_one [_] (b := (b9, [] ++ (.float .f64 (F (((q1.x + a1) + a3) + a4)) :: .float .f64 (F ((q1.y + a0) + a2)) :: []), 50)) (fun w9 ha_ hb_ => f148_any w9 b9 [] [] 50 (((q1.x + a1) + a3) + a4) ((q1.y + a0) + a2) a5 a6 (F a5) (F a6) (by omega) (by omega) (RF_F (by omega)) (RF_F (by omega)) (by omega) (by omega) hb_)) ?_
   intro _ _
   refine d_end (by kernel_rfl) .nil ?_
   refine qR ?_
   refine lV (y_loadN (vs := [_, _]) ld_50 rfl m1 rfl rfl) ?_
   refine l_does rfl rfl (g_storeN (vs := [_, _]) (cs' := [_, _]) sz_50 rfl rfl rfl rfl rfl rfl rfl .here) ?_
   intro _ _
   refine nQ ?_
   refine c_seq ?_
   refine c_draw [] mixed rfl ?_
   refine dV 0 rfl (y_fieldAddr fo_50_1 rfl) ?_
   refine dM 2 rfl rfl ?_
   refine dM 3 rfl rfl ?_
   refine dV 4 rfl (y_bin rfl rfl rfl (fitI (m := k + 7) (by omega) (by omega))) ?_
   refine dN 5 rfl rfl ?_
   refine dV 6 rfl (y_fieldAddr fo_95_4 rfl) ?_
   refine dV 7 rfl (y_fieldAddr fo_91_0 rfl) ?_
   refine dV 8 rfl (y_indexArr (j := k + 7) ar_89 rfl rfl (blt513 (by omega))) ?_
   refine dV 9 rfl (y_oldLoad1 ld_41 rfl hMb hMS (hMv (k + 7) _ h7)) ?_
   refine d_ready (i := 1) (rs := []) (by kernel_rfl) .nil (all_one ?_)
   refine o_gives rfl rfl rfl (gy (y_load1 ld_41 rfl m0 rfl)) rfl ?_
   intro _ _
   refine dV 10 rfl (y_fadd (a := (((q1.y + a0) + a2) + a6)) (b := a7) rfl rfl (by omega) (RF_F (by omega)) (by omega)) ?_
   refine dV 11 rfl (y_fieldAddr fo_50_1 rfl) ?_
   refine d_ready (i := 12) (rs := []) (by kernel_rfl) .nil (all_one ?_)
   refine o_does rfl rfl rfl (g_store1 (cs' := [_, _]) sz_41 rfl rfl rfl rfl rfl rfl .here) ?_
   intro _ _
   refine d_end (by kernel_rfl) .nil ?_
   refine q_then ?_
   refine c_seq ?_
   refine cR ?_
   refine lM rfl ?_
   refine lN rfl ?_
   refine lV (y_fieldAddr fo_95_4 rfl) ?_
   refine lV (y_fieldAddr fo_91_1 rfl) ?_
   refine lV (y_oldLoad1 ld_21 rfl hMb hMS hMt) ?_
   refine lM rfl ?_
   refine lV (y_bin rfl rfl rfl (fitI (m := st.length - k) (by omega) (by omega))) ?_
   refine lB rfl rfl rfl rfl ?_
   refine lM rfl ?_
   refine l_split (t := 312) rfl rfl (fun hs312 => ?_) (fun hs312 => ?_)
   ·have h16 : st.length - k < 16 := by simp only [decide_eq_true_eq] at hs312; omega
    refine l_want rfl rfl ?_
    refine lM rfl ?_
    refine l_want rfl rfl ?_
    refine lN rfl ?_
    refine l_want rfl rfl ?_
    refine lV (y_fieldAddr fo_95_4 rfl) ?_
    refine l_want rfl rfl ?_
    refine lV (y_fieldAddr fo_91_1 rfl) ?_
    refine l_want rfl rfl ?_
    refine lV (y_oldLoad1 ld_21 rfl hMb hMS hMt) ?_
    refine l_want rfl rfl ?_
    refine lV (y_bin rfl rfl rfl (andV (by omega))) ?_
    refine l_want rfl rfl ?_
    refine lB rfl rfl rfl rfl ?_
    refine lV (y_pick rfl rfl rfl) ?_
    refine nQ ?_
    refine c_cond rfl (fun hc320 => ?_) (fun hc320 => ?_)
    ·have hk9 : st.length = k + 9 := by simp only [bne_iff_ne, ne_eq] at hc320; omega
     obtain ⟨a8, h8⟩ := at_of (l := st) (i := k + 8) (by omega)
     have n8 := at_opd hq h8
     have hr : lastQ (st.drop (k + 8)) = a8 := by rw [drop_cons h8, List.drop_of_length_le (by omega)]; rfl
     refine c_draw [] mixed rfl ?_
     refine dV 0 rfl (y_fieldAddr fo_50_0 rfl) ?_
     refine dM 2 rfl rfl ?_
     refine dM 3 rfl rfl ?_
     refine dV 4 rfl (y_bin rfl rfl rfl (fitI (m := k + 8) (by omega) (by omega))) ?_
     refine dN 5 rfl rfl ?_
     refine dV 6 rfl (y_fieldAddr fo_95_4 rfl) ?_
     refine dV 7 rfl (y_fieldAddr fo_91_0 rfl) ?_
     refine dV 8 rfl (y_indexArr (j := k + 8) ar_89 rfl rfl (blt513 (by omega))) ?_
     refine dV 9 rfl (y_oldLoad1 ld_41 rfl hMb hMS (hMv (k + 8) _ h8)) ?_
     refine d_ready (i := 1) (rs := []) (by kernel_rfl) .nil (all_one ?_)
     refine o_gives rfl rfl rfl (gy (y_load1 ld_41 rfl m0 rfl)) rfl ?_
     intro _ _
     refine dV 10 rfl (y_fadd (a := ((((q1.x + a1) + a3) + a4) + a5)) (b := a8) rfl rfl (by omega) (RF_F (by omega)) (by omega)) ?_
     refine dV 11 rfl (y_fieldAddr fo_50_0 rfl) ?_
     refine d_ready (i := 12) (rs := []) (by kernel_rfl) .nil (all_one ?_)
     refine o_does rfl rfl rfl (g_store1 (cs' := [_, _]) sz_41 rfl rfl rfl rfl rfl rfl .here) ?_
     intro _ _
     refine d_end (by kernel_rfl) .nil ?_
     refine qG ?_
     refine lM rfl ?_
     refine lV (y_loadN (vs := [_, _]) ld_50 rfl m2 rfl rfl) ?_
     refine lV (y_loadN (vs := [_, _]) ld_50 rfl m1 rfl rfl) ?_
     refine lV (y_loadN (vs := [_, _]) ld_50 rfl m0 rfl rfl) ?_
     refine l_call ok_151 rfl rfl (out_tail (A := [_, _, _]) (H1 := (HB bH so_1 (curveA q1 q1.x (q1.y + a0) (q1.x + a1) ((q1.y + a0) + a2) ((q1.x + a1) + a3) ((q1.y + a0) + a2)).out.length ((curveA q1 q1.x (q1.y + a0) (q1.x + a1) ((q1.y + a0) + a2) ((q1.x + a1) + a3) ((q1.y + a0) + a2)).bx) v5 v6 v7 ((curveA q1 q1.x (q1.y + a0) (q1.x + a1) ((q1.y + a0) + a2) ((q1.x + a1) + a3) ((q1.y + a0) + a2)).x) ((curveA q1 q1.x (q1.y + a0) (q1.x + a1) ((q1.y + a0) + a2) ((q1.x + a1) + a3) ((q1.y + a0) + a2)).y) ((curveA q1 q1.x (q1.y + a0) (q1.x + a1) ((q1.y + a0) + a2) ((q1.x + a1) + a3) ((q1.y + a0) + a2)).fx) ((curveA q1 q1.x (q1.y + a0) (q1.x + a1) ((q1.y + a0) + a2) ((q1.x + a1) + a3) ((q1.y + a0) + a2)).fy) ((curveA q1 q1.x (q1.y + a0) (q1.x + a1) ((q1.y + a0) + a2) ((q1.x + a1) + a3) ((q1.y + a0) + a2)).io) v13 (((curveA q1 q1.x (q1.y + a0) (q1.x + a1) ((q1.y + a0) + a2) ((q1.x + a1) + a3) ((q1.y + a0) + a2)).bx).isSome) wd) :: slH so_1 (encG (curveA q1 q1.x (q1.y + a0) (q1.x + a1) ((q1.y + a0) + a2) ((q1.x + a1) + a3) ((q1.y + a0) + a2)).out) 77) (fun w9 ha_ hb_ => f151_any w9 bH (M + (k + 8) * 2147483648) (curveA q1 q1.x (q1.y + a0) (q1.x + a1) ((q1.y + a0) + a2) ((q1.x + a1) + a3) ((q1.y + a0) + a2)) so_1 v5 v6 v7 v13 wd (Nat.lt_of_le_of_lt (show (M + (k + 8) * 2147483648) ≤ M + 60 * 2147483648 by omega) (by omega)) (hB_1.mono (by omega)) (((q1.x + a1) + a3) + a4) ((q1.y + a0) + a2) ((((q1.x + a1) + a3) + a4) + a5) (((q1.y + a0) + a2) + a6) (((((q1.x + a1) + a3) + a4) + a5) + a8) ((((q1.y + a0) + a2) + a6) + a7) (by omega) (by omega) (by omega) (by omega) (by omega) (by omega) hok_1 (by omega) hb_)) ?_
     intro so_2 hok_2
     have hB_2 := curveA_bd (hB_1.mono (N := (M + (k + 8) * 2147483648)) (by omega)) (show ((((q1.x + a1) + a3) + a4)).natAbs ≤ _ by omega) (show (((q1.y + a0) + a2)).natAbs ≤ _ by omega) (show (((((q1.x + a1) + a3) + a4) + a5)).natAbs ≤ _ by omega) (show ((((q1.y + a0) + a2) + a6)).natAbs ≤ _ by omega) (show ((((((q1.x + a1) + a3) + a4) + a5) + a8)).natAbs ≤ _ by omega) (show (((((q1.y + a0) + a2) + a6) + a7)).natAbs ≤ _ by omega)
     have hl_2 : (curveA (curveA q1 q1.x (q1.y + a0) (q1.x + a1) ((q1.y + a0) + a2) ((q1.x + a1) + a3) ((q1.y + a0) + a2)) (((q1.x + a1) + a3) + a4) ((q1.y + a0) + a2) ((((q1.x + a1) + a3) + a4) + a5) (((q1.y + a0) + a2) + a6) (((((q1.x + a1) + a3) + a4) + a5) + a8) ((((q1.y + a0) + a2) + a6) + a7)).out.length = (curveA q1 q1.x (q1.y + a0) (q1.x + a1) ((q1.y + a0) + a2) ((q1.x + a1) + a3) ((q1.y + a0) + a2)).out.length + 1 := curveA_len
     refine l_nil ?_
     refine q_block ?_
     refine qG ?_
     refine lM rfl ?_
     refine lV (y_bin rfl rfl rfl (fitI (m := k + 8) (by omega) (by omega))) ?_
     refine lA rfl ?_
     refine l_nil ?_
     exact q_rnd (k + 8, (curveA (curveA q1 q1.x (q1.y + a0) (q1.x + a1) ((q1.y + a0) + a2) ((q1.x + a1) + a3) ((q1.y + a0) + a2)) (((q1.x + a1) + a3) + a4) ((q1.y + a0) + a2) ((((q1.x + a1) + a3) + a4) + a5) (((q1.y + a0) + a2) + a6) (((((q1.x + a1) + a3) + a4) + a5) + a8) ((((q1.y + a0) + a2) + a6) + a7)), so_2) ⟨by simp only; omega, by simp only; omega, (by rw [← hE, hd, turn2_f, hr, curveQ_f0, curveQ_t] <;> rfl), hB_2, hok_2, by simp only; omega⟩ (by simp only; omega) ⟨rfl, rfl, rfl, trivial⟩ (.cons (.there (.there (.there .here))) (.skip (.skip (.skip .refl))))
    ·have hr : lastQ (st.drop (k + 8)) = 0 := lastQ_ne (by simp only [bne_eq_false_iff_eq] at hc320; rw [List.length_drop]; omega)
     refine kG ?_
     refine lM rfl ?_
     refine lV (y_loadN (vs := [_, _]) ld_50 rfl m2 rfl rfl) ?_
     refine lV (y_loadN (vs := [_, _]) ld_50 rfl m1 rfl rfl) ?_
     refine lV (y_loadN (vs := [_, _]) ld_50 rfl m0 rfl rfl) ?_
     refine l_call ok_151 rfl rfl (out_tail (A := [_, _, _]) (H1 := (HB bH so_1 (curveA q1 q1.x (q1.y + a0) (q1.x + a1) ((q1.y + a0) + a2) ((q1.x + a1) + a3) ((q1.y + a0) + a2)).out.length ((curveA q1 q1.x (q1.y + a0) (q1.x + a1) ((q1.y + a0) + a2) ((q1.x + a1) + a3) ((q1.y + a0) + a2)).bx) v5 v6 v7 ((curveA q1 q1.x (q1.y + a0) (q1.x + a1) ((q1.y + a0) + a2) ((q1.x + a1) + a3) ((q1.y + a0) + a2)).x) ((curveA q1 q1.x (q1.y + a0) (q1.x + a1) ((q1.y + a0) + a2) ((q1.x + a1) + a3) ((q1.y + a0) + a2)).y) ((curveA q1 q1.x (q1.y + a0) (q1.x + a1) ((q1.y + a0) + a2) ((q1.x + a1) + a3) ((q1.y + a0) + a2)).fx) ((curveA q1 q1.x (q1.y + a0) (q1.x + a1) ((q1.y + a0) + a2) ((q1.x + a1) + a3) ((q1.y + a0) + a2)).fy) ((curveA q1 q1.x (q1.y + a0) (q1.x + a1) ((q1.y + a0) + a2) ((q1.x + a1) + a3) ((q1.y + a0) + a2)).io) v13 (((curveA q1 q1.x (q1.y + a0) (q1.x + a1) ((q1.y + a0) + a2) ((q1.x + a1) + a3) ((q1.y + a0) + a2)).bx).isSome) wd) :: slH so_1 (encG (curveA q1 q1.x (q1.y + a0) (q1.x + a1) ((q1.y + a0) + a2) ((q1.x + a1) + a3) ((q1.y + a0) + a2)).out) 77) (fun w9 ha_ hb_ => f151_any w9 bH (M + (k + 8) * 2147483648) (curveA q1 q1.x (q1.y + a0) (q1.x + a1) ((q1.y + a0) + a2) ((q1.x + a1) + a3) ((q1.y + a0) + a2)) so_1 v5 v6 v7 v13 wd (Nat.lt_of_le_of_lt (show (M + (k + 8) * 2147483648) ≤ M + 60 * 2147483648 by omega) (by omega)) (hB_1.mono (by omega)) (((q1.x + a1) + a3) + a4) ((q1.y + a0) + a2) ((((q1.x + a1) + a3) + a4) + a5) (((q1.y + a0) + a2) + a6) ((((q1.x + a1) + a3) + a4) + a5) ((((q1.y + a0) + a2) + a6) + a7) (by omega) (by omega) (by omega) (by omega) (by omega) (by omega) hok_1 (by omega) hb_)) ?_
     intro so_3 hok_3
     have hB_3 := curveA_bd (hB_1.mono (N := (M + (k + 8) * 2147483648)) (by omega)) (show ((((q1.x + a1) + a3) + a4)).natAbs ≤ _ by omega) (show (((q1.y + a0) + a2)).natAbs ≤ _ by omega) (show (((((q1.x + a1) + a3) + a4) + a5)).natAbs ≤ _ by omega) (show ((((q1.y + a0) + a2) + a6)).natAbs ≤ _ by omega) (show (((((q1.x + a1) + a3) + a4) + a5)).natAbs ≤ _ by omega) (show (((((q1.y + a0) + a2) + a6) + a7)).natAbs ≤ _ by omega)
     have hl_3 : (curveA (curveA q1 q1.x (q1.y + a0) (q1.x + a1) ((q1.y + a0) + a2) ((q1.x + a1) + a3) ((q1.y + a0) + a2)) (((q1.x + a1) + a3) + a4) ((q1.y + a0) + a2) ((((q1.x + a1) + a3) + a4) + a5) (((q1.y + a0) + a2) + a6) ((((q1.x + a1) + a3) + a4) + a5) ((((q1.y + a0) + a2) + a6) + a7)).out.length = (curveA q1 q1.x (q1.y + a0) (q1.x + a1) ((q1.y + a0) + a2) ((q1.x + a1) + a3) ((q1.y + a0) + a2)).out.length + 1 := curveA_len
     refine l_nil ?_
     refine q_block ?_
     refine qG ?_
     refine lM rfl ?_
     refine lV (y_bin rfl rfl rfl (fitI (m := k + 8) (by omega) (by omega))) ?_
     refine lA rfl ?_
     refine l_nil ?_
     exact q_rnd (k + 8, (curveA (curveA q1 q1.x (q1.y + a0) (q1.x + a1) ((q1.y + a0) + a2) ((q1.x + a1) + a3) ((q1.y + a0) + a2)) (((q1.x + a1) + a3) + a4) ((q1.y + a0) + a2) ((((q1.x + a1) + a3) + a4) + a5) (((q1.y + a0) + a2) + a6) ((((q1.x + a1) + a3) + a4) + a5) ((((q1.y + a0) + a2) + a6) + a7)), so_3) ⟨by simp only; omega, by simp only; omega, (by rw [← hE, hd, turn2_f, hr, curveQ_f0, curveQ_t0] <;> rfl), hB_3, hok_3, by simp only; omega⟩ (by simp only; omega) ⟨rfl, rfl, rfl, trivial⟩ (.cons (.there (.there (.there .here))) (.skip (.skip (.skip .refl))))
   ·have h16 : ¬ st.length - k < 16 := by simp only [decide_eq_false_iff_not] at hs312; omega
    have hr : lastQ (st.drop (k + 8)) = 0 := lastQ_ne (by rw [List.length_drop]; omega)
    refine l_not rfl rfl rfl rfl ?_
    refine l_not rfl rfl rfl rfl ?_
    refine l_not rfl rfl rfl rfl ?_
    refine l_not rfl rfl rfl rfl ?_
    refine l_not rfl rfl rfl rfl ?_
    refine l_not rfl rfl rfl rfl ?_
    refine l_not rfl rfl rfl rfl ?_
    refine lV (y_pick rfl rfl rfl) ?_
    refine nQ ?_
    refine c_false rfl rfl ?_
    refine kG ?_
    refine lM rfl ?_
    refine lV (y_loadN (vs := [_, _]) ld_50 rfl m2 rfl rfl) ?_
    refine lV (y_loadN (vs := [_, _]) ld_50 rfl m1 rfl rfl) ?_
    refine lV (y_loadN (vs := [_, _]) ld_50 rfl m0 rfl rfl) ?_
    refine l_call ok_151 rfl rfl (out_tail (A := [_, _, _]) (H1 := (HB bH so_1 (curveA q1 q1.x (q1.y + a0) (q1.x + a1) ((q1.y + a0) + a2) ((q1.x + a1) + a3) ((q1.y + a0) + a2)).out.length ((curveA q1 q1.x (q1.y + a0) (q1.x + a1) ((q1.y + a0) + a2) ((q1.x + a1) + a3) ((q1.y + a0) + a2)).bx) v5 v6 v7 ((curveA q1 q1.x (q1.y + a0) (q1.x + a1) ((q1.y + a0) + a2) ((q1.x + a1) + a3) ((q1.y + a0) + a2)).x) ((curveA q1 q1.x (q1.y + a0) (q1.x + a1) ((q1.y + a0) + a2) ((q1.x + a1) + a3) ((q1.y + a0) + a2)).y) ((curveA q1 q1.x (q1.y + a0) (q1.x + a1) ((q1.y + a0) + a2) ((q1.x + a1) + a3) ((q1.y + a0) + a2)).fx) ((curveA q1 q1.x (q1.y + a0) (q1.x + a1) ((q1.y + a0) + a2) ((q1.x + a1) + a3) ((q1.y + a0) + a2)).fy) ((curveA q1 q1.x (q1.y + a0) (q1.x + a1) ((q1.y + a0) + a2) ((q1.x + a1) + a3) ((q1.y + a0) + a2)).io) v13 (((curveA q1 q1.x (q1.y + a0) (q1.x + a1) ((q1.y + a0) + a2) ((q1.x + a1) + a3) ((q1.y + a0) + a2)).bx).isSome) wd) :: slH so_1 (encG (curveA q1 q1.x (q1.y + a0) (q1.x + a1) ((q1.y + a0) + a2) ((q1.x + a1) + a3) ((q1.y + a0) + a2)).out) 77) (fun w9 ha_ hb_ => f151_any w9 bH (M + (k + 8) * 2147483648) (curveA q1 q1.x (q1.y + a0) (q1.x + a1) ((q1.y + a0) + a2) ((q1.x + a1) + a3) ((q1.y + a0) + a2)) so_1 v5 v6 v7 v13 wd (Nat.lt_of_le_of_lt (show (M + (k + 8) * 2147483648) ≤ M + 60 * 2147483648 by omega) (by omega)) (hB_1.mono (by omega)) (((q1.x + a1) + a3) + a4) ((q1.y + a0) + a2) ((((q1.x + a1) + a3) + a4) + a5) (((q1.y + a0) + a2) + a6) ((((q1.x + a1) + a3) + a4) + a5) ((((q1.y + a0) + a2) + a6) + a7) (by omega) (by omega) (by omega) (by omega) (by omega) (by omega) hok_1 (by omega) hb_)) ?_
    intro so_4 hok_4
    have hB_4 := curveA_bd (hB_1.mono (N := (M + (k + 8) * 2147483648)) (by omega)) (show ((((q1.x + a1) + a3) + a4)).natAbs ≤ _ by omega) (show (((q1.y + a0) + a2)).natAbs ≤ _ by omega) (show (((((q1.x + a1) + a3) + a4) + a5)).natAbs ≤ _ by omega) (show ((((q1.y + a0) + a2) + a6)).natAbs ≤ _ by omega) (show (((((q1.x + a1) + a3) + a4) + a5)).natAbs ≤ _ by omega) (show (((((q1.y + a0) + a2) + a6) + a7)).natAbs ≤ _ by omega)
    have hl_4 : (curveA (curveA q1 q1.x (q1.y + a0) (q1.x + a1) ((q1.y + a0) + a2) ((q1.x + a1) + a3) ((q1.y + a0) + a2)) (((q1.x + a1) + a3) + a4) ((q1.y + a0) + a2) ((((q1.x + a1) + a3) + a4) + a5) (((q1.y + a0) + a2) + a6) ((((q1.x + a1) + a3) + a4) + a5) ((((q1.y + a0) + a2) + a6) + a7)).out.length = (curveA q1 q1.x (q1.y + a0) (q1.x + a1) ((q1.y + a0) + a2) ((q1.x + a1) + a3) ((q1.y + a0) + a2)).out.length + 1 := curveA_len
    refine l_nil ?_
    refine q_block ?_
    refine qG ?_
    refine lM rfl ?_
    refine lV (y_bin rfl rfl rfl (fitI (m := k + 8) (by omega) (by omega))) ?_
    refine lA rfl ?_
    refine l_nil ?_
    exact q_rnd (k + 8, (curveA (curveA q1 q1.x (q1.y + a0) (q1.x + a1) ((q1.y + a0) + a2) ((q1.x + a1) + a3) ((q1.y + a0) + a2)) (((q1.x + a1) + a3) + a4) ((q1.y + a0) + a2) ((((q1.x + a1) + a3) + a4) + a5) (((q1.y + a0) + a2) + a6) ((((q1.x + a1) + a3) + a4) + a5) ((((q1.y + a0) + a2) + a6) + a7)), so_4) ⟨by simp only; omega, by simp only; omega, (by rw [← hE, hd, turn2_f, hr, curveQ_f0, curveQ_t0] <;> rfl), hB_4, hok_4, by simp only; omega⟩ (by simp only; omega) ⟨rfl, rfl, rfl, trivial⟩ (.cons (.there (.there (.there .here))) (.skip (.skip (.skip .refl))))
  ·have hk3 : ¬ k + 8 ≤ st.length := by simp only [decide_eq_false_iff_not] at hc206; omega
   rw [turningQ_short (by rw [List.length_drop]; omega)] at hE
   have hE2 : q1 = turningQ false q st := hE
   subst hE2
   refine c_exit ?_
   refine q_then_exit ?_
   refine q_rnd_exit ?_
   refine q_block_exit ?_
   exact body_ret (rs := []) rfl (vs := []) trivial (out_end so1 hok1 rfl (.cons .here .refl)) _ (.inl rfl)
set_option maxHeartbeats 8000000 in
theorem f136_any (w : World) (bH bM M : Nat) (q : QSt) (so : Sv) (v5 v6 v7 v13 : Value) (wd : List Value) (st : List Int) (hn : st.length ≤ 48) (hq : ∀ q ∈ st, Opd q) (hB0 : q.Bd M) (hM : M + 120 * 2147483648 < 2 ^ 53) (hok : slOk so q.out.length 7 (encG q.out)) (hlen : q.out.length ≤ 70000) (h4n : 4 ≤ st.length) (h4m : st.length % 4 < 2) (hR : RdM w (((HB bH so q.out.length q.bx v5 v6 v7 q.x q.y q.fx q.fy q.io v13 ((q.bx).isSome) wd) :: slH so (encG q.out) 77).map (·.1)) bM st) (hw : Hp w (((HB bH so q.out.length q.bx v5 v6 v7 q.x q.y q.fx q.fy q.io v13 ((q.bx).isSome) wd) :: slH so (encG q.out) 77).map (·.1)) ((HB bH so q.out.length q.bx v5 v6 v7 q.x q.y q.fx q.fy q.io v13 ((q.bx).isSome) wd) :: slH so (encG q.out) 77) w) : Calls Tryz.prog 136 [.pointer (some ⟨bH, 0, none⟩), .pointer (some ⟨bM, 0, none⟩)].toArray w (Out w (((HB bH so q.out.length q.bx v5 v6 v7 q.x q.y q.fx q.fy q.io v13 ((q.bx).isSome) wd) :: slH so (encG q.out) 77).map (·.1)) (fun z : Sv => slOk z (turningQ true q st).out.length 7 (encG (turningQ true q st).out)) (fun z => .tuple #[]) (fun z => (HB bH z (turningQ true q st).out.length ((turningQ true q st).bx) v5 v6 v7 ((turningQ true q st).x) ((turningQ true q st).y) ((turningQ true q st).fx) ((turningQ true q st).fy) ((turningQ true q st).io) v13 (((turningQ true q st).bx).isSome) wd) :: slH z (encG (turningQ true q st).out) 77)) := by
 obtain ⟨hMb, hMS, hMt, hMv⟩ := hR
 have hqx0 := nb hB0.x
 have hqy0 := nb hB0.y
 refine enter (n := 338) Tryz.func136 rfl rfl rfl hw ?_
 refine cR ?_
 refine lA rfl ?_
 refine nR ?_
 refine lM rfl ?_
 refine lN rfl ?_
 refine lV (y_fieldAddr fo_95_4 rfl) ?_
 refine lV (y_fieldAddr fo_91_1 rfl) ?_
 refine lV (y_oldLoad1 ld_21 rfl hMb hMS hMt) ?_
 refine lV (y_rem rfl rfl (by decide) (remI 8 rfl)) ?_
 refine lB rfl rfl rfl rfl ?_
 refine nQ ?_
 refine c_cond rfl (fun hc17 => ?_) (fun hc17 => ?_)
 ·have h84 : 4 ≤ st.length % 8 := by simp only [decide_eq_true_eq] at hc17; omega
  have hqx := nb hB0.x
  have hqy := nb hB0.y
  obtain ⟨a0, h0⟩ := at_of (l := st) (i := 0) (by omega)
  have n0 := at_opd hq h0
  obtain ⟨a1, h1⟩ := at_of (l := st) (i := 0 + 1) (by omega)
  have n1 := at_opd hq h1
  obtain ⟨a2, h2⟩ := at_of (l := st) (i := 0 + 2) (by omega)
  have n2 := at_opd hq h2
  obtain ⟨a3, h3⟩ := at_of (l := st) (i := 0 + 3) (by omega)
  have n3 := at_opd hq h3
  refine cR ?_
  refine lM rfl ?_
  refine lN rfl ?_
  refine lV (y_fieldAddr fo_97_5 rfl) ?_
  refine lV (y_loadN (vs := [_, _]) ld_50 rfl m0 rfl rfl) ?_
  refine l_gives rfl rfl (g_alloc ze_50) rfl ?_
  intro b5 hb5
  refine l_does rfl rfl (g_storeN (vs := [_, _]) (cs' := [_, _]) sz_50 rfl rfl rfl rfl rfl rfl rfl .here) ?_
  intro _ _
  refine nQ ?_
  refine c_seq ?_
  refine c_draw [] mixed rfl ?_
  refine dV 0 rfl (y_fieldAddr fo_50_0 rfl) ?_
  refine dM 2 rfl rfl ?_
  refine dM 3 rfl rfl ?_
  refine dN 4 rfl rfl ?_
  refine dV 5 rfl (y_fieldAddr fo_95_4 rfl) ?_
  refine dV 6 rfl (y_fieldAddr fo_91_0 rfl) ?_
  refine dV 7 rfl (y_indexArr (j := 0) ar_89 rfl rfl (blt513 (by omega))) ?_
  refine dV 8 rfl (y_oldLoad1 ld_41 rfl hMb hMS (hMv (0) _ h0)) ?_
  refine d_ready (i := 1) (rs := []) (by kernel_rfl) .nil (all_one ?_)
  refine o_gives rfl rfl rfl (gy (y_load1 ld_41 rfl m0 rfl)) rfl ?_
  intro _ _
  refine dV 9 rfl (y_fadd (a := q.x) (b := a0) rfl rfl (by omega) (RF_F (by omega)) (by omega)) ?_
  refine dV 10 rfl (y_fieldAddr fo_50_0 rfl) ?_
  refine d_ready (i := 11) (rs := []) (by kernel_rfl) .nil (all_one ?_)
  refine o_does rfl rfl rfl (g_store1 (cs' := [_, _]) sz_41 rfl rfl rfl rfl rfl rfl .here) ?_
  intro _ _
  refine d_end (by kernel_rfl) .nil ?_
  refine qR ?_
  refine lV (y_loadN (vs := [_, _]) ld_50 rfl m0 rfl rfl) ?_
  refine l_gives rfl rfl (g_alloc ze_50) rfl ?_
  intro b6 hb6
  refine l_does rfl rfl (g_storeN (vs := [_, _]) (cs' := [_, _]) sz_50 rfl rfl rfl rfl rfl rfl rfl .here) ?_
  intro _ _
  refine nQ ?_
  refine c_seq ?_
  refine c_draw [] mixed rfl ?_
  refine dM 0 rfl rfl ?_
  refine dM 1 rfl rfl ?_
  refine dV 2 rfl (y_bin rfl rfl rfl (fitI (m := 1) (by omega) (by omega))) ?_
  refine dN 3 rfl rfl ?_
  refine dV 4 rfl (y_fieldAddr fo_95_4 rfl) ?_
  refine dV 5 rfl (y_fieldAddr fo_91_0 rfl) ?_
  refine dV 6 rfl (y_indexArr (j := 1) ar_89 rfl rfl (blt513 (by omega))) ?_
  refine dV 7 rfl (y_oldLoad1 ld_41 rfl hMb hMS (hMv (1) _ h1)) ?_
  refine dM 8 rfl rfl ?_
  refine dM 9 rfl rfl ?_
  refine dV 10 rfl (y_bin rfl rfl rfl (fitI (m := 2) (by omega) (by omega))) ?_
  refine dN 11 rfl rfl ?_
  refine dV 12 rfl (y_fieldAddr fo_95_4 rfl) ?_
  refine dV 13 rfl (y_fieldAddr fo_91_0 rfl) ?_
  refine dV 14 rfl (y_indexArr (j := 2) ar_89 rfl rfl (blt513 (by omega))) ?_
  refine dV 15 rfl (y_oldLoad1 ld_41 rfl hMb hMS (hMv (2) _ h2)) ?_
  refine d_ready (i := 16) (rs := []) (by kernel_rfl) .nil (all_one ?_)
  refine o_call rfl (no_guard rfl) ok_148 rfl rfl (out_one [] (b := (b6, [] ++ (.float .f64 (F (q.x + a0)) :: .float .f64 (F q.y) :: []), 50)) (fun w9 ha_ hb_ => f148_any w9 b6 [] [] 50 (q.x + a0) q.y a1 a2 (F a1) (F a2) (by omega) (by omega) (RF_F (by omega)) (RF_F (by omega)) (by omega) (by omega) hb_)) ?_
  intro _ _
  refine d_end (by kernel_rfl) .nil ?_
  refine qR ?_
  refine lV (y_loadN (vs := [_, _]) ld_50 rfl m0 rfl rfl) ?_
  refine l_gives rfl rfl (g_alloc ze_50) rfl ?_
  intro b7 hb7
  refine l_does rfl rfl (g_storeN (vs := [_, _]) (cs' := [_, _]) sz_50 rfl rfl rfl rfl rfl rfl rfl .here) ?_
  intro _ _
  refine nQ ?_
  refine c_seq ?_
  refine c_draw [] mixed rfl ?_
  refine dV 0 rfl (y_fieldAddr fo_50_1 rfl) ?_
  refine dM 2 rfl rfl ?_
  refine dM 3 rfl rfl ?_
  refine dV 4 rfl (y_bin rfl rfl rfl (fitI (m := 3) (by omega) (by omega))) ?_
  refine dN 5 rfl rfl ?_
  refine dV 6 rfl (y_fieldAddr fo_95_4 rfl) ?_
  refine dV 7 rfl (y_fieldAddr fo_91_0 rfl) ?_
  refine dV 8 rfl (y_indexArr (j := 3) ar_89 rfl rfl (blt513 (by omega))) ?_
  refine dV 9 rfl (y_oldLoad1 ld_41 rfl hMb hMS (hMv (3) _ h3)) ?_
  refine d_ready (i := 1) (rs := []) (by kernel_rfl) .nil (all_one ?_)
  refine o_gives rfl rfl rfl (gy (y_load1 ld_41 rfl m0 rfl)) rfl ?_
  intro _ _
  refine dV 10 rfl (y_fadd (a := (q.y + a2)) (b := a3) rfl rfl (by omega) (RF_F (by omega)) (by omega)) ?_
  refine dV 11 rfl (y_fieldAddr fo_50_1 rfl) ?_
  refine d_ready (i := 12) (rs := []) (by kernel_rfl) .nil (all_one ?_)
  refine o_does rfl rfl rfl (g_store1 (cs' := [_, _]) sz_41 rfl rfl rfl rfl rfl rfl .here) ?_
  intro _ _
  refine d_end (by kernel_rfl) .nil ?_
  refine qR ?_
  refine lM rfl ?_
  refine lV (y_bin rfl rfl rfl (fitI (m := 4) (by omega) (by omega))) ?_
  refine lA rfl ?_
  refine nQ ?_
  refine c_seq ?_
  refine c_block ?_
  refine c_loop (ι := Nat × QSt × Sv × Int × Int × Int × Int) (φ := fun z => z.1 + 4 ≤ st.length ∧ z.1 % 8 = 0 ∧ st[z.1]? = some z.2.2.2.1 ∧ st[z.1 + 1]? = some z.2.2.2.2.1 ∧ st[z.1 + 2]? = some z.2.2.2.2.2.1 ∧ st[z.1 + 3]? = some z.2.2.2.2.2.2 ∧ turningQ true z.2.1 (st.drop z.1) = turningQ true q st ∧ z.2.1.Bd (M + z.1 * 2147483648) ∧ slOk z.2.2.1 z.2.1.out.length 7 (encG z.2.1.out) ∧ z.2.1.out.length ≤ q.out.length + z.1) (L' := fun z => [(0, .pointer (some ⟨bH, 0, none⟩)), (1, .pointer (some ⟨bM, 0, none⟩)), (4, .int .i32 ((z.1 + 4 : Nat) : Int)), (5, .pointer (some ⟨b5, 0, none⟩)), (6, .pointer (some ⟨b6, 0, none⟩)), (7, .pointer (some ⟨b7, 0, none⟩))]) (H' := fun z => (b7, [.float .f64 (F (z.2.1.x + z.2.2.2.1 + z.2.2.2.2.1)), .float .f64 (F (z.2.1.y + z.2.2.2.2.2.1 + z.2.2.2.2.2.2))], 50) :: (b6, [.float .f64 (F (z.2.1.x + z.2.2.2.1 + z.2.2.2.2.1)), .float .f64 (F (z.2.1.y + z.2.2.2.2.2.1))], 50) :: (b5, [.float .f64 (F (z.2.1.x + z.2.2.2.1)), .float .f64 (F z.2.1.y)], 50) :: (HB bH z.2.2.1 z.2.1.out.length z.2.1.bx v5 v6 v7 z.2.1.x z.2.1.y z.2.1.fx z.2.1.fy z.2.1.io v13 ((z.2.1.bx).isSome) wd) :: slH z.2.2.1 (encG z.2.1.out) 77) (fun z => st.length - z.1) (0, q, so, a0, a1, a2, a3) ⟨by simp only; omega, rfl, h0, h1, h2, h3, rfl, hB0.mono (by simp), hok, Nat.le_refl _⟩ ⟨rfl, rfl, rfl, rfl, rfl, rfl, trivial⟩ (.cons .here (.cons .here (.cons .here (.cons .here .refl)))) ?_
  intro ⟨j, q1, so1, a0, a1, a2, a3⟩ ⟨hk, hke, h0, h1, h2, h3, hE, hB, hok1, hol⟩
  simp only at hk hke h0 h1 h2 h3 hE hB hok1 hol ⊢
  have n0 := at_opd hq h0
  have n1 := at_opd hq h1
  have n2 := at_opd hq h2
  have n3 := at_opd hq h3
  have hqx := nb hB.x
  have hqy := nb hB.y
  refine c_seq ?_
  refine cR ?_
  refine lM rfl ?_
  refine lV (y_bin rfl rfl rfl (fitI (m := j + 12) (by omega) (by omega))) ?_
  refine lM rfl ?_
  refine lN rfl ?_
  refine lV (y_fieldAddr fo_95_4 rfl) ?_
  refine lV (y_fieldAddr fo_91_1 rfl) ?_
  refine lV (y_oldLoad1 ld_21 rfl hMb hMS hMt) ?_
  refine lB rfl rfl rfl rfl ?_
  refine nQ ?_
  refine c_cond rfl (fun hc73 => ?_) (fun hc73 => ?_)
  ·have hk2 : j + 12 ≤ st.length := by simp only [decide_eq_true_eq] at hc73; omega
   obtain ⟨a4, h4⟩ := at_of (l := st) (i := j + 4) (by omega)
   have n4 := at_opd hq h4
   obtain ⟨a5, h5⟩ := at_of (l := st) (i := j + 5) (by omega)
   have n5 := at_opd hq h5
   obtain ⟨a6, h6⟩ := at_of (l := st) (i := j + 6) (by omega)
   have n6 := at_opd hq h6
   obtain ⟨a7, h7⟩ := at_of (l := st) (i := j + 7) (by omega)
   have n7 := at_opd hq h7
   obtain ⟨a8, h8⟩ := at_of (l := st) (i := j + 8) (by omega)
   have n8 := at_opd hq h8
   obtain ⟨a9, h9⟩ := at_of (l := st) (i := j + 9) (by omega)
   have n9 := at_opd hq h9
   obtain ⟨a10, h10⟩ := at_of (l := st) (i := j + 10) (by omega)
   have n10 := at_opd hq h10
   obtain ⟨a11, h11⟩ := at_of (l := st) (i := j + 11) (by omega)
   have n11 := at_opd hq h11
   have hd : st.drop j = a0 :: a1 :: a2 :: a3 :: a4 :: a5 :: a6 :: a7 :: st.drop (j + 8) := by rw [drop_cons h0, drop_cons h1, drop_cons h2, drop_cons h3, drop_cons h4, drop_cons h5, drop_cons h6, drop_cons h7]
   refine kQ ?_
   refine c_seq ?_
   refine c_block ?_
   refine cR ?_
   refine lM rfl ?_
   refine lV (y_loadN (vs := [_, _]) ld_50 rfl m2 rfl rfl) ?_
   refine lV (y_loadN (vs := [_, _]) ld_50 rfl m1 rfl rfl) ?_
   refine lV (y_loadN (vs := [_, _]) ld_50 rfl m0 rfl rfl) ?_
   refine l_call ok_151 rfl rfl (out_tail (A := [_, _, _]) (H1 := (HB bH so1 q1.out.length q1.bx v5 v6 v7 q1.x q1.y q1.fx q1.fy q1.io v13 ((q1.bx).isSome) wd) :: slH so1 (encG q1.out) 77) (fun w9 ha_ hb_ => f151_any w9 bH (M + (j + 8) * 2147483648) q1 so1 v5 v6 v7 v13 wd (Nat.lt_of_le_of_lt (show (M + (j + 8) * 2147483648) ≤ M + 60 * 2147483648 by omega) (by omega)) (hB.mono (by omega)) (q1.x + a0) q1.y (q1.x + a0 + a1) (q1.y + a2) (q1.x + a0 + a1) (q1.y + a2 + a3) (by omega) (by omega) (by omega) (by omega) (by omega) (by omega) hok1 (by omega) hb_)) ?_
   intro so_1 hok_1
   have hB_1 := curveA_bd (hB.mono (N := (M + (j + 8) * 2147483648)) (by omega)) (show ((q1.x + a0)).natAbs ≤ _ by omega) (show (q1.y).natAbs ≤ _ by omega) (show ((q1.x + a0 + a1)).natAbs ≤ _ by omega) (show ((q1.y + a2)).natAbs ≤ _ by omega) (show ((q1.x + a0 + a1)).natAbs ≤ _ by omega) (show ((q1.y + a2 + a3)).natAbs ≤ _ by omega)
   have hl_1 : (curveA q1 (q1.x + a0) q1.y (q1.x + a0 + a1) (q1.y + a2) (q1.x + a0 + a1) (q1.y + a2 + a3)).out.length = q1.out.length + 1 := curveA_len
   refine nR ?_
   refine lM rfl ?_
   refine lN rfl ?_
   refine lV (y_fieldAddr fo_97_5 rfl) ?_
   refine lV (y_loadN (vs := [_, _]) ld_50 rfl m3 rfl rfl) ?_
   refine l_does rfl rfl (g_storeN (vs := [_, _]) (cs' := [_, _]) sz_50 rfl rfl rfl rfl rfl rfl rfl (.there (.there .here))) ?_
   intro _ _
   refine nQ ?_
   refine c_seq ?_
   refine c_draw [] mixed rfl ?_
   refine dV 0 rfl (y_fieldAddr fo_50_1 rfl) ?_
   refine dM 2 rfl rfl ?_
   refine dM 3 rfl rfl ?_
   refine dN 4 rfl rfl ?_
   refine dV 5 rfl (y_fieldAddr fo_95_4 rfl) ?_
   refine dV 6 rfl (y_fieldAddr fo_91_0 rfl) ?_
   refine dV 7 rfl (y_indexArr (j := j + 4) ar_89 rfl rfl (blt513 (by omega))) ?_
   refine dV 8 rfl (y_oldLoad1 ld_41 rfl hMb hMS (hMv (j + 4) _ h4)) ?_
   refine d_ready (i := 1) (rs := []) (by kernel_rfl) .nil (all_one ?_)
   refine o_gives rfl rfl rfl (gy (y_load1 ld_41 rfl m2 rfl)) rfl ?_
   intro _ _
   refine dV 9 rfl (y_fadd (a := (q1.y + a2 + a3)) (b := a4) rfl rfl (by omega) (RF_F (by omega)) (by omega)) ?_
   refine dV 10 rfl (y_fieldAddr fo_50_1 rfl) ?_
   refine d_ready (i := 11) (rs := []) (by kernel_rfl) .nil (all_one ?_)
   refine o_does rfl rfl rfl (g_store1 (cs' := [_, _]) sz_41 rfl rfl rfl rfl rfl rfl (.there (.there .here))) ?_
   intro _ _
   refine d_end (by kernel_rfl) .nil ?_
   refine qR ?_
   refine lV (y_loadN (vs := [_, _]) ld_50 rfl m2 rfl rfl) ?_
   refine l_does rfl rfl (g_storeN (vs := [_, _]) (cs' := [_, _]) sz_50 rfl rfl rfl rfl rfl rfl rfl (.there .here)) ?_
   intro _ _
   refine nQ ?_
   refine c_seq ?_
   refine c_draw [] mixed rfl ?_
   refine dM 0 rfl rfl ?_
   refine dM 1 rfl rfl ?_
   refine dV 2 rfl (y_bin rfl rfl rfl (fitI (m := j + 5) (by omega) (by omega))) ?_
   refine dN 3 rfl rfl ?_
   refine dV 4 rfl (y_fieldAddr fo_95_4 rfl) ?_
   refine dV 5 rfl (y_fieldAddr fo_91_0 rfl) ?_
   refine dV 6 rfl (y_indexArr (j := j + 5) ar_89 rfl rfl (blt513 (by omega))) ?_
   refine dV 7 rfl (y_oldLoad1 ld_41 rfl hMb hMS (hMv (j + 5) _ h5)) ?_
   refine dM 8 rfl rfl ?_
   refine dM 9 rfl rfl ?_
   refine dV 10 rfl (y_bin rfl rfl rfl (fitI (m := j + 6) (by omega) (by omega))) ?_
   refine dN 11 rfl rfl ?_
   refine dV 12 rfl (y_fieldAddr fo_95_4 rfl) ?_
   refine dV 13 rfl (y_fieldAddr fo_91_0 rfl) ?_
   refine dV 14 rfl (y_indexArr (j := j + 6) ar_89 rfl rfl (blt513 (by omega))) ?_
   refine dV 15 rfl (y_oldLoad1 ld_41 rfl hMb hMS (hMv (j + 6) _ h6)) ?_
   refine d_ready (i := 16) (rs := []) (by kernel_rfl) .nil (all_one ?_)
   refine o_call rfl (no_guard rfl) ok_148 rfl rfl (out_one [_] (b := (b6, [] ++ (.float .f64 (F (q1.x + a0 + a1)) :: .float .f64 (F ((q1.y + a2 + a3) + a4)) :: []), 50)) (fun w9 ha_ hb_ => f148_any w9 b6 [] [] 50 (q1.x + a0 + a1) ((q1.y + a2 + a3) + a4) a5 a6 (F a5) (F a6) (by omega) (by omega) (RF_F (by omega)) (RF_F (by omega)) (by omega) (by omega) hb_)) ?_
   intro _ _
   refine d_end (by kernel_rfl) .nil ?_
   refine qR ?_
   refine lV (y_loadN (vs := [_, _]) ld_50 rfl m1 rfl rfl) ?_
   refine l_does rfl rfl (g_storeN (vs := [_, _]) (cs' := [_, _]) sz_50 rfl rfl rfl rfl rfl rfl rfl .here) ?_
   intro _ _
   refine nQ ?_
   refine c_seq ?_
   refine c_draw [] mixed rfl ?_
   refine dV 0 rfl (y_fieldAddr fo_50_0 rfl) ?_
   refine dM 2 rfl rfl ?_
   refine dM 3 rfl rfl ?_
   refine dV 4 rfl (y_bin rfl rfl rfl (fitI (m := j + 7) (by omega) (by omega))) ?_
   refine dN 5 rfl rfl ?_
   refine dV 6 rfl (y_fieldAddr fo_95_4 rfl) ?_
   refine dV 7 rfl (y_fieldAddr fo_91_0 rfl) ?_
   refine dV 8 rfl (y_indexArr (j := j + 7) ar_89 rfl rfl (blt513 (by omega))) ?_
   refine dV 9 rfl (y_oldLoad1 ld_41 rfl hMb hMS (hMv (j + 7) _ h7)) ?_
   refine d_ready (i := 1) (rs := []) (by kernel_rfl) .nil (all_one ?_)
   refine o_gives rfl rfl rfl (gy (y_load1 ld_41 rfl m0 rfl)) rfl ?_
   intro _ _
   refine dV 10 rfl (y_fadd (a := ((q1.x + a0 + a1) + a5)) (b := a7) rfl rfl (by omega) (RF_F (by omega)) (by omega)) ?_
   refine dV 11 rfl (y_fieldAddr fo_50_0 rfl) ?_
   refine d_ready (i := 12) (rs := []) (by kernel_rfl) .nil (all_one ?_)
   refine o_does rfl rfl rfl (g_store1 (cs' := [_, _]) sz_41 rfl rfl rfl rfl rfl rfl .here) ?_
   intro _ _
   refine d_end (by kernel_rfl) .nil ?_
   refine qR ?_
   refine lM rfl ?_
   refine lV (y_loadN (vs := [_, _]) ld_50 rfl m2 rfl rfl) ?_
   refine lV (y_loadN (vs := [_, _]) ld_50 rfl m1 rfl rfl) ?_
   refine lV (y_loadN (vs := [_, _]) ld_50 rfl m0 rfl rfl) ?_
   refine l_call ok_151 rfl rfl (out_tail (A := [_, _, _]) (H1 := (HB bH so_1 (curveA q1 (q1.x + a0) q1.y (q1.x + a0 + a1) (q1.y + a2) (q1.x + a0 + a1) (q1.y + a2 + a3)).out.length ((curveA q1 (q1.x + a0) q1.y (q1.x + a0 + a1) (q1.y + a2) (q1.x + a0 + a1) (q1.y + a2 + a3)).bx) v5 v6 v7 ((curveA q1 (q1.x + a0) q1.y (q1.x + a0 + a1) (q1.y + a2) (q1.x + a0 + a1) (q1.y + a2 + a3)).x) ((curveA q1 (q1.x + a0) q1.y (q1.x + a0 + a1) (q1.y + a2) (q1.x + a0 + a1) (q1.y + a2 + a3)).y) ((curveA q1 (q1.x + a0) q1.y (q1.x + a0 + a1) (q1.y + a2) (q1.x + a0 + a1) (q1.y + a2 + a3)).fx) ((curveA q1 (q1.x + a0) q1.y (q1.x + a0 + a1) (q1.y + a2) (q1.x + a0 + a1) (q1.y + a2 + a3)).fy) ((curveA q1 (q1.x + a0) q1.y (q1.x + a0 + a1) (q1.y + a2) (q1.x + a0 + a1) (q1.y + a2 + a3)).io) v13 (((curveA q1 (q1.x + a0) q1.y (q1.x + a0 + a1) (q1.y + a2) (q1.x + a0 + a1) (q1.y + a2 + a3)).bx).isSome) wd) :: slH so_1 (encG (curveA q1 (q1.x + a0) q1.y (q1.x + a0 + a1) (q1.y + a2) (q1.x + a0 + a1) (q1.y + a2 + a3)).out) 77) (fun w9 ha_ hb_ => f151_any w9 bH (M + (j + 8) * 2147483648) (curveA q1 (q1.x + a0) q1.y (q1.x + a0 + a1) (q1.y + a2) (q1.x + a0 + a1) (q1.y + a2 + a3)) so_1 v5 v6 v7 v13 wd (Nat.lt_of_le_of_lt (show (M + (j + 8) * 2147483648) ≤ M + 60 * 2147483648 by omega) (by omega)) (hB_1.mono (by omega)) (q1.x + a0 + a1) ((q1.y + a2 + a3) + a4) ((q1.x + a0 + a1) + a5) (((q1.y + a2 + a3) + a4) + a6) (((q1.x + a0 + a1) + a5) + a7) (((q1.y + a2 + a3) + a4) + a6) (by omega) (by omega) (by omega) (by omega) (by omega) (by omega) hok_1 (by omega) hb_)) ?_
   intro so_2 hok_2
   have hB_2 := curveA_bd (hB_1.mono (N := (M + (j + 8) * 2147483648)) (by omega)) (show ((q1.x + a0 + a1)).natAbs ≤ _ by omega) (show (((q1.y + a2 + a3) + a4)).natAbs ≤ _ by omega) (show (((q1.x + a0 + a1) + a5)).natAbs ≤ _ by omega) (show ((((q1.y + a2 + a3) + a4) + a6)).natAbs ≤ _ by omega) (show ((((q1.x + a0 + a1) + a5) + a7)).natAbs ≤ _ by omega) (show ((((q1.y + a2 + a3) + a4) + a6)).natAbs ≤ _ by omega)
   have hl_2 : (curveA (curveA q1 (q1.x + a0) q1.y (q1.x + a0 + a1) (q1.y + a2) (q1.x + a0 + a1) (q1.y + a2 + a3)) (q1.x + a0 + a1) ((q1.y + a2 + a3) + a4) ((q1.x + a0 + a1) + a5) (((q1.y + a2 + a3) + a4) + a6) (((q1.x + a0 + a1) + a5) + a7) (((q1.y + a2 + a3) + a4) + a6)).out.length = (curveA q1 (q1.x + a0) q1.y (q1.x + a0 + a1) (q1.y + a2) (q1.x + a0 + a1) (q1.y + a2 + a3)).out.length + 1 := curveA_len
   refine nR ?_
   refine lV (y_loadN (vs := [_, _]) ld_50 rfl m0 rfl rfl) ?_
   refine l_does rfl rfl (g_storeN (vs := [_, _]) (cs' := [_, _]) sz_50 rfl rfl rfl rfl rfl rfl rfl (.there (.there .here))) ?_
   intro _ _
   refine nQ ?_
   refine c_seq ?_
   refine c_draw [] mixed rfl ?_
   refine dV 0 rfl (y_fieldAddr fo_50_0 rfl) ?_
   refine dM 2 rfl rfl ?_
   refine dM 3 rfl rfl ?_
   refine dV 4 rfl (y_bin rfl rfl rfl (fitI (m := j + 8) (by omega) (by omega))) ?_
   refine dN 5 rfl rfl ?_
   refine dV 6 rfl (y_fieldAddr fo_95_4 rfl) ?_
   refine dV 7 rfl (y_fieldAddr fo_91_0 rfl) ?_
   refine dV 8 rfl (y_indexArr (j := j + 8) ar_89 rfl rfl (blt513 (by omega))) ?_
   refine dV 9 rfl (y_oldLoad1 ld_41 rfl hMb hMS (hMv (j + 8) _ h8)) ?_
   refine d_ready (i := 1) (rs := []) (by kernel_rfl) .nil (all_one ?_)
   refine o_gives rfl rfl rfl (gy (y_load1 ld_41 rfl m2 rfl)) rfl ?_
   intro _ _
   refine dV 10 rfl (y_fadd (a := (((q1.x + a0 + a1) + a5) + a7)) (b := a8) rfl rfl (by omega) (RF_F (by omega)) (by omega)) ?_
   refine dV 11 rfl (y_fieldAddr fo_50_0 rfl) ?_
   refine d_ready (i := 12) (rs := []) (by kernel_rfl) .nil (all_one ?_)
   refine o_does rfl rfl rfl (g_store1 (cs' := [_, _]) sz_41 rfl rfl rfl rfl rfl rfl (.there (.there .here))) ?_
   intro _ _
   refine d_end (by kernel_rfl) .nil ?_
   refine qR ?_
   refine lV (y_loadN (vs := [_, _]) ld_50 rfl m2 rfl rfl) ?_
   refine l_does rfl rfl (g_storeN (vs := [_, _]) (cs' := [_, _]) sz_50 rfl rfl rfl rfl rfl rfl rfl (.there .here)) ?_
   intro _ _
   refine nQ ?_
   refine c_seq ?_
   refine c_draw [] mixed rfl ?_
   refine dM 0 rfl rfl ?_
   refine dM 1 rfl rfl ?_
   refine dV 2 rfl (y_bin rfl rfl rfl (fitI (m := j + 9) (by omega) (by omega))) ?_
   refine dN 3 rfl rfl ?_
   refine dV 4 rfl (y_fieldAddr fo_95_4 rfl) ?_
   refine dV 5 rfl (y_fieldAddr fo_91_0 rfl) ?_
   refine dV 6 rfl (y_indexArr (j := j + 9) ar_89 rfl rfl (blt513 (by omega))) ?_
   refine dV 7 rfl (y_oldLoad1 ld_41 rfl hMb hMS (hMv (j + 9) _ h9)) ?_
   refine dM 8 rfl rfl ?_
   refine dM 9 rfl rfl ?_
   refine dV 10 rfl (y_bin rfl rfl rfl (fitI (m := j + 10) (by omega) (by omega))) ?_
   refine dN 11 rfl rfl ?_
   refine dV 12 rfl (y_fieldAddr fo_95_4 rfl) ?_
   refine dV 13 rfl (y_fieldAddr fo_91_0 rfl) ?_
   refine dV 14 rfl (y_indexArr (j := j + 10) ar_89 rfl rfl (blt513 (by omega))) ?_
   refine dV 15 rfl (y_oldLoad1 ld_41 rfl hMb hMS (hMv (j + 10) _ h10)) ?_
   refine d_ready (i := 16) (rs := []) (by kernel_rfl) .nil (all_one ?_)
   refine o_call rfl (no_guard rfl) ok_148 rfl rfl (out_one [_] (b := (b6, [] ++ (.float .f64 (F ((((q1.x + a0 + a1) + a5) + a7) + a8)) :: .float .f64 (F (((q1.y + a2 + a3) + a4) + a6)) :: []), 50)) (fun w9 ha_ hb_ => f148_any w9 b6 [] [] 50 ((((q1.x + a0 + a1) + a5) + a7) + a8) (((q1.y + a2 + a3) + a4) + a6) a9 a10 (F a9) (F a10) (by omega) (by omega) (RF_F (by omega)) (RF_F (by omega)) (by omega) (by omega) hb_)) ?_
   intro _ _
   refine d_end (by kernel_rfl) .nil ?_
   refine qR ?_
   refine lV (y_loadN (vs := [_, _]) ld_50 rfl m1 rfl rfl) ?_
   refine l_does rfl rfl (g_storeN (vs := [_, _]) (cs' := [_, _]) sz_50 rfl rfl rfl rfl rfl rfl rfl .here) ?_
   intro _ _
   refine nQ ?_
   refine c_draw [] mixed rfl ?_
   refine dV 0 rfl (y_fieldAddr fo_50_1 rfl) ?_
   refine dM 2 rfl rfl ?_
   refine dM 3 rfl rfl ?_
   refine dV 4 rfl (y_bin rfl rfl rfl (fitI (m := j + 11) (by omega) (by omega))) ?_
   refine dN 5 rfl rfl ?_
   refine dV 6 rfl (y_fieldAddr fo_95_4 rfl) ?_
   refine dV 7 rfl (y_fieldAddr fo_91_0 rfl) ?_
   refine dV 8 rfl (y_indexArr (j := j + 11) ar_89 rfl rfl (blt513 (by omega))) ?_
   refine dV 9 rfl (y_oldLoad1 ld_41 rfl hMb hMS (hMv (j + 11) _ h11)) ?_
   refine d_ready (i := 1) (rs := []) (by kernel_rfl) .nil (all_one ?_)
   refine o_gives rfl rfl rfl (gy (y_load1 ld_41 rfl m0 rfl)) rfl ?_
   intro _ _
   refine dV 10 rfl (y_fadd (a := ((((q1.y + a2 + a3) + a4) + a6) + a10)) (b := a11) rfl rfl (by omega) (RF_F (by omega)) (by omega)) ?_
   refine dV 11 rfl (y_fieldAddr fo_50_1 rfl) ?_
   refine d_ready (i := 12) (rs := []) (by kernel_rfl) .nil (all_one ?_)
   refine o_does rfl rfl rfl (g_store1 (cs' := [_, _]) sz_41 rfl rfl rfl rfl rfl rfl .here) ?_
   intro _ _
   refine d_end (by kernel_rfl) .nil ?_
   refine q_block ?_
   refine qG ?_
   refine lM rfl ?_
   refine lV (y_bin rfl rfl rfl (fitI (m := j + 12) (by omega) (by omega))) ?_
   refine lA rfl ?_
   refine l_nil ?_
   exact q_rnd (j + 8, (curveA (curveA q1 (q1.x + a0) q1.y (q1.x + a0 + a1) (q1.y + a2) (q1.x + a0 + a1) (q1.y + a2 + a3)) (q1.x + a0 + a1) ((q1.y + a2 + a3) + a4) ((q1.x + a0 + a1) + a5) (((q1.y + a2 + a3) + a4) + a6) (((q1.x + a0 + a1) + a5) + a7) (((q1.y + a2 + a3) + a4) + a6)), so_2, a8, a9, a10, a11) ⟨by simp only; omega, by simp only; omega, h8, h9, h10, h11, (by rw [← hE, hd, turn2_t, lastQ_ge (by rw [List.length_drop]; omega), curveQ_t0, curveQ_f0] <;> rfl), hB_2, hok_2, by simp only; omega⟩ (by simp only; omega) ⟨rfl, rfl, rfl, rfl, rfl, rfl, trivial⟩ (.cons .here (.cons .here (.cons .here (.cons .here .refl))))
  ·have hk3 : st.length < j + 12 := by simp only [decide_eq_false_iff_not] at hc73; omega
   refine c_exit ?_
   refine q_then_exit ?_
   refine q_rnd_exit ?_
   refine q_block_exit ?_
   refine q_then ?_
   refine c_seq ?_
   refine cR ?_
   refine lM rfl ?_
   refine lM rfl ?_
   refine lN rfl ?_
   refine lV (y_fieldAddr fo_95_4 rfl) ?_
   refine lV (y_fieldAddr fo_91_1 rfl) ?_
   refine lV (y_oldLoad1 ld_21 rfl hMb hMS hMt) ?_
   refine lB rfl rfl rfl rfl ?_
   refine nQ ?_
   refine c_cond rfl (fun hc182 => ?_) (fun hc182 => ?_)
   ·have hk4 : st.length = j + 5 := by simp only [decide_eq_true_eq] at hc182; omega
    obtain ⟨a4, h4⟩ := at_of (l := st) (i := j + 4) (by omega)
    have n4 := at_opd hq h4
    have hd : st.drop j = [a0, a1, a2, a3, a4] := by rw [drop_cons h0, drop_cons h1, drop_cons h2, drop_cons h3, drop_cons h4, List.drop_of_length_le (by omega)]
    refine c_draw [] mixed rfl ?_
    refine dV 0 rfl (y_fieldAddr fo_50_0 rfl) ?_
    refine dM 2 rfl rfl ?_
    refine dM 3 rfl rfl ?_
    refine dN 4 rfl rfl ?_
    refine dV 5 rfl (y_fieldAddr fo_95_4 rfl) ?_
    refine dV 6 rfl (y_fieldAddr fo_91_0 rfl) ?_
    refine dV 7 rfl (y_indexArr (j := j + 4) ar_89 rfl rfl (blt513 (by omega))) ?_
    refine dV 8 rfl (y_oldLoad1 ld_41 rfl hMb hMS (hMv (j + 4) _ h4)) ?_
    refine d_ready (i := 1) (rs := []) (by kernel_rfl) .nil (all_one ?_)
    refine o_gives rfl rfl rfl (gy (y_load1 ld_41 rfl m0 rfl)) rfl ?_
    intro _ _
    refine dV 9 rfl (y_fadd (a := (q1.x + a0 + a1)) (b := a4) rfl rfl (by omega) (RF_F (by omega)) (by omega)) ?_
    refine dV 10 rfl (y_fieldAddr fo_50_0 rfl) ?_
    refine d_ready (i := 11) (rs := []) (by kernel_rfl) .nil (all_one ?_)
    refine o_does rfl rfl rfl (g_store1 (cs' := [_, _]) sz_41 rfl rfl rfl rfl rfl rfl .here) ?_
    intro _ _
    refine d_end (by kernel_rfl) .nil ?_
    refine qG ?_
    refine lM rfl ?_
    refine lV (y_loadN (vs := [_, _]) ld_50 rfl m2 rfl rfl) ?_
    refine lV (y_loadN (vs := [_, _]) ld_50 rfl m1 rfl rfl) ?_
    refine lV (y_loadN (vs := [_, _]) ld_50 rfl m0 rfl rfl) ?_
    refine l_call ok_151 rfl rfl (out_tail (A := [_, _, _]) (H1 := (HB bH so1 q1.out.length q1.bx v5 v6 v7 q1.x q1.y q1.fx q1.fy q1.io v13 ((q1.bx).isSome) wd) :: slH so1 (encG q1.out) 77) (fun w9 ha_ hb_ => f151_any w9 bH (M + (j + 8) * 2147483648) q1 so1 v5 v6 v7 v13 wd (Nat.lt_of_le_of_lt (show (M + (j + 8) * 2147483648) ≤ M + 60 * 2147483648 by omega) (by omega)) (hB.mono (by omega)) (q1.x + a0) q1.y (q1.x + a0 + a1) (q1.y + a2) ((q1.x + a0 + a1) + a4) (q1.y + a2 + a3) (by omega) (by omega) (by omega) (by omega) (by omega) (by omega) hok1 (by omega) hb_)) ?_
    intro so_3 hok_3
    have hB_3 := curveA_bd (hB.mono (N := (M + (j + 8) * 2147483648)) (by omega)) (show ((q1.x + a0)).natAbs ≤ _ by omega) (show (q1.y).natAbs ≤ _ by omega) (show ((q1.x + a0 + a1)).natAbs ≤ _ by omega) (show ((q1.y + a2)).natAbs ≤ _ by omega) (show (((q1.x + a0 + a1) + a4)).natAbs ≤ _ by omega) (show ((q1.y + a2 + a3)).natAbs ≤ _ by omega)
    have hl_3 : (curveA q1 (q1.x + a0) q1.y (q1.x + a0 + a1) (q1.y + a2) ((q1.x + a0 + a1) + a4) (q1.y + a2 + a3)).out.length = q1.out.length + 1 := curveA_len
    refine l_nil ?_
    have hE2 : (curveA q1 (q1.x + a0) q1.y (q1.x + a0 + a1) (q1.y + a2) ((q1.x + a0 + a1) + a4) (q1.y + a2 + a3)) = turningQ true q st := by rw [← hE, hd, turn1_t (by simp), curveQ_t] <;> rfl
    rw [← hE2]
    exact body_ret (rs := []) rfl (vs := []) trivial (out_end so_3 hok_3 rfl (.cons (.there (.there (.there .here))) (.skip (.skip (.skip .refl))))) _ (.inl rfl)
   ·have hk4 : st.length = j + 4 := by simp only [decide_eq_false_iff_not] at hc182; omega
    have hd : st.drop j = [a0, a1, a2, a3] := by rw [drop_cons h0, drop_cons h1, drop_cons h2, drop_cons h3, List.drop_of_length_le (by omega)]
    refine kG ?_
    refine lM rfl ?_
    refine lV (y_loadN (vs := [_, _]) ld_50 rfl m2 rfl rfl) ?_
    refine lV (y_loadN (vs := [_, _]) ld_50 rfl m1 rfl rfl) ?_
    refine lV (y_loadN (vs := [_, _]) ld_50 rfl m0 rfl rfl) ?_
    refine l_call ok_151 rfl rfl (out_tail (A := [_, _, _]) (H1 := (HB bH so1 q1.out.length q1.bx v5 v6 v7 q1.x q1.y q1.fx q1.fy q1.io v13 ((q1.bx).isSome) wd) :: slH so1 (encG q1.out) 77) (fun w9 ha_ hb_ => f151_any w9 bH (M + (j + 8) * 2147483648) q1 so1 v5 v6 v7 v13 wd (Nat.lt_of_le_of_lt (show (M + (j + 8) * 2147483648) ≤ M + 60 * 2147483648 by omega) (by omega)) (hB.mono (by omega)) (q1.x + a0) q1.y (q1.x + a0 + a1) (q1.y + a2) (q1.x + a0 + a1) (q1.y + a2 + a3) (by omega) (by omega) (by omega) (by omega) (by omega) (by omega) hok1 (by omega) hb_)) ?_
    intro so_4 hok_4
    have hB_4 := curveA_bd (hB.mono (N := (M + (j + 8) * 2147483648)) (by omega)) (show ((q1.x + a0)).natAbs ≤ _ by omega) (show (q1.y).natAbs ≤ _ by omega) (show ((q1.x + a0 + a1)).natAbs ≤ _ by omega) (show ((q1.y + a2)).natAbs ≤ _ by omega) (show ((q1.x + a0 + a1)).natAbs ≤ _ by omega) (show ((q1.y + a2 + a3)).natAbs ≤ _ by omega)
    have hl_4 : (curveA q1 (q1.x + a0) q1.y (q1.x + a0 + a1) (q1.y + a2) (q1.x + a0 + a1) (q1.y + a2 + a3)).out.length = q1.out.length + 1 := curveA_len
    refine l_nil ?_
    have hE2 : (curveA q1 (q1.x + a0) q1.y (q1.x + a0 + a1) (q1.y + a2) (q1.x + a0 + a1) (q1.y + a2 + a3)) = turningQ true q st := by rw [← hE, hd, turn1_t (by simp), show lastQ [] = 0 from rfl, curveQ_t0] <;> rfl
    rw [← hE2]
    exact body_ret (rs := []) rfl (vs := []) trivial (out_end so_4 hok_4 rfl (.cons (.there (.there (.there .here))) (.skip (.skip (.skip .refl))))) _ (.inl rfl)
 ·have h84 : st.length % 8 < 4 := by simp only [decide_eq_false_iff_not] at hc17; omega
  refine c_block ?_
  refine c_loop (ι := Nat × QSt × Sv) (φ := fun z => z.1 ≤ st.length ∧ z.1 % 8 = 0 ∧ turningQ true z.2.1 (st.drop z.1) = turningQ true q st ∧ z.2.1.Bd (M + z.1 * 2147483648) ∧ slOk z.2.2 z.2.1.out.length 7 (encG z.2.1.out) ∧ z.2.1.out.length ≤ q.out.length + z.1) (L' := fun z => [(0, .pointer (some ⟨bH, 0, none⟩)), (1, .pointer (some ⟨bM, 0, none⟩)), (4, .int .i32 (z.1 : Nat))]) (H' := fun z => (HB bH z.2.2 z.2.1.out.length z.2.1.bx v5 v6 v7 z.2.1.x z.2.1.y z.2.1.fx z.2.1.fy z.2.1.io v13 ((z.2.1.bx).isSome) wd) :: slH z.2.2 (encG z.2.1.out) 77) (fun z => st.length - z.1) (0, q, so) ⟨Nat.zero_le _, rfl, rfl, by simpa using hB0, hok, Nat.le_refl _⟩ ⟨rfl, rfl, rfl, trivial⟩ (.cons .here .refl) ?_
  intro ⟨k, q1, so1⟩ ⟨hk, hke, hE, hB, hok1, hol⟩
  simp only at hk hke hE hB hok1 hol ⊢
  have hqx := nb hB.x
  have hqy := nb hB.y
  refine c_seq ?_
  refine cR ?_
  refine lM rfl ?_
  refine lV (y_bin rfl rfl rfl (fitI (m := k + 8) (by omega) (by omega))) ?_
  refine lM rfl ?_
  refine lN rfl ?_
  refine lV (y_fieldAddr fo_95_4 rfl) ?_
  refine lV (y_fieldAddr fo_91_1 rfl) ?_
  refine lV (y_oldLoad1 ld_21 rfl hMb hMS hMt) ?_
  refine lB rfl rfl rfl rfl ?_
  refine nQ ?_
  refine c_cond rfl (fun hc206 => ?_) (fun hc206 => ?_)
  ·have hk2 : k + 8 ≤ st.length := by simp only [decide_eq_true_eq] at hc206; omega
   obtain ⟨a0, h0⟩ := at_of (l := st) (i := k) (by omega)
   have n0 := at_opd hq h0
   obtain ⟨a1, h1⟩ := at_of (l := st) (i := k + 1) (by omega)
   have n1 := at_opd hq h1
   obtain ⟨a2, h2⟩ := at_of (l := st) (i := k + 2) (by omega)
   have n2 := at_opd hq h2
   obtain ⟨a3, h3⟩ := at_of (l := st) (i := k + 3) (by omega)
   have n3 := at_opd hq h3
   obtain ⟨a4, h4⟩ := at_of (l := st) (i := k + 4) (by omega)
   have n4 := at_opd hq h4
   obtain ⟨a5, h5⟩ := at_of (l := st) (i := k + 5) (by omega)
   have n5 := at_opd hq h5
   obtain ⟨a6, h6⟩ := at_of (l := st) (i := k + 6) (by omega)
   have n6 := at_opd hq h6
   obtain ⟨a7, h7⟩ := at_of (l := st) (i := k + 7) (by omega)
   have n7 := at_opd hq h7
   have hd : st.drop k = a0 :: a1 :: a2 :: a3 :: a4 :: a5 :: a6 :: a7 :: st.drop (k + 8) := by rw [drop_cons h0, drop_cons h1, drop_cons h2, drop_cons h3, drop_cons h4, drop_cons h5, drop_cons h6, drop_cons h7]
   refine kQ ?_
   refine c_seq ?_
   refine c_block ?_
   refine cR ?_
   refine lM rfl ?_
   refine lN rfl ?_
   refine lV (y_fieldAddr fo_97_5 rfl) ?_
   refine lV (y_loadN (vs := [_, _]) ld_50 rfl m0 rfl rfl) ?_
   refine l_gives rfl rfl (g_alloc ze_50) rfl ?_
   intro b8 hb8
   refine l_does rfl rfl (g_storeN (vs := [_, _]) (cs' := [_, _]) sz_50 rfl rfl rfl rfl rfl rfl rfl .here) ?_
   intro _ _
   refine nQ ?_
   refine c_seq ?_
   refine c_draw [] mixed rfl ?_
   refine dV 0 rfl (y_fieldAddr fo_50_0 rfl) ?_
   refine dM 2 rfl rfl ?_
   refine dM 3 rfl rfl ?_
   refine dN 4 rfl rfl ?_
   refine dV 5 rfl (y_fieldAddr fo_95_4 rfl) ?_
   refine dV 6 rfl (y_fieldAddr fo_91_0 rfl) ?_
   refine dV 7 rfl (y_indexArr (j := k) ar_89 rfl rfl (blt513 (by omega))) ?_
   refine dV 8 rfl (y_oldLoad1 ld_41 rfl hMb hMS (hMv (k) _ h0)) ?_
   refine d_ready (i := 1) (rs := []) (by kernel_rfl) .nil (all_one ?_)
   refine o_gives rfl rfl rfl (gy (y_load1 ld_41 rfl m0 rfl)) rfl ?_
   intro _ _
   refine dV 9 rfl (y_fadd (a := q1.x) (b := a0) rfl rfl (by omega) (RF_F (by omega)) (by omega)) ?_
   refine dV 10 rfl (y_fieldAddr fo_50_0 rfl) ?_
   refine d_ready (i := 11) (rs := []) (by kernel_rfl) .nil (all_one ?_)
   refine o_does rfl rfl rfl (g_store1 (cs' := [_, _]) sz_41 rfl rfl rfl rfl rfl rfl .here) ?_
   intro _ _
   refine d_end (by kernel_rfl) .nil ?_
   refine qR ?_
   refine lV (y_loadN (vs := [_, _]) ld_50 rfl m0 rfl rfl) ?_
   refine l_gives rfl rfl (g_alloc ze_50) rfl ?_
   intro b9 hb9
   refine l_does rfl rfl (g_storeN (vs := [_, _]) (cs' := [_, _]) sz_50 rfl rfl rfl rfl rfl rfl rfl .here) ?_
   intro _ _
   refine nQ ?_
   refine c_seq ?_
   refine c_draw [] mixed rfl ?_
   refine dM 0 rfl rfl ?_
   refine dM 1 rfl rfl ?_
   refine dV 2 rfl (y_bin rfl rfl rfl (fitI (m := k + 1) (by omega) (by omega))) ?_
   refine dN 3 rfl rfl ?_
   refine dV 4 rfl (y_fieldAddr fo_95_4 rfl) ?_
   refine dV 5 rfl (y_fieldAddr fo_91_0 rfl) ?_
   refine dV 6 rfl (y_indexArr (j := k + 1) ar_89 rfl rfl (blt513 (by omega))) ?_
   refine dV 7 rfl (y_oldLoad1 ld_41 rfl hMb hMS (hMv (k + 1) _ h1)) ?_
   refine dM 8 rfl rfl ?_
   refine dM 9 rfl rfl ?_
   refine dV 10 rfl (y_bin rfl rfl rfl (fitI (m := k + 2) (by omega) (by omega))) ?_
   refine dN 11 rfl rfl ?_
   refine dV 12 rfl (y_fieldAddr fo_95_4 rfl) ?_
   refine dV 13 rfl (y_fieldAddr fo_91_0 rfl) ?_
   refine dV 14 rfl (y_indexArr (j := k + 2) ar_89 rfl rfl (blt513 (by omega))) ?_
   refine dV 15 rfl (y_oldLoad1 ld_41 rfl hMb hMS (hMv (k + 2) _ h2)) ?_
   refine d_ready (i := 16) (rs := []) (by kernel_rfl) .nil (all_one ?_)
   refine o_call rfl (no_guard rfl) ok_148 rfl rfl (out_one [] (b := (b9, [] ++ (.float .f64 (F (q1.x + a0)) :: .float .f64 (F q1.y) :: []), 50)) (fun w9 ha_ hb_ => f148_any w9 b9 [] [] 50 (q1.x + a0) q1.y a1 a2 (F a1) (F a2) (by omega) (by omega) (RF_F (by omega)) (RF_F (by omega)) (by omega) (by omega) hb_)) ?_
   intro _ _
   refine d_end (by kernel_rfl) .nil ?_
   refine qR ?_
   refine lV (y_loadN (vs := [_, _]) ld_50 rfl m0 rfl rfl) ?_
   refine l_gives rfl rfl (g_alloc ze_50) rfl ?_
   intro b10 hb10
   refine l_does rfl rfl (g_storeN (vs := [_, _]) (cs' := [_, _]) sz_50 rfl rfl rfl rfl rfl rfl rfl .here) ?_
   intro _ _
   refine nQ ?_
   refine c_seq ?_
   refine c_draw [] mixed rfl ?_
   refine dV 0 rfl (y_fieldAddr fo_50_1 rfl) ?_
   refine dM 2 rfl rfl ?_
   refine dM 3 rfl rfl ?_
   refine dV 4 rfl (y_bin rfl rfl rfl (fitI (m := k + 3) (by omega) (by omega))) ?_
   refine dN 5 rfl rfl ?_
   refine dV 6 rfl (y_fieldAddr fo_95_4 rfl) ?_
   refine dV 7 rfl (y_fieldAddr fo_91_0 rfl) ?_
   refine dV 8 rfl (y_indexArr (j := k + 3) ar_89 rfl rfl (blt513 (by omega))) ?_
   refine dV 9 rfl (y_oldLoad1 ld_41 rfl hMb hMS (hMv (k + 3) _ h3)) ?_
   refine d_ready (i := 1) (rs := []) (by kernel_rfl) .nil (all_one ?_)
   refine o_gives rfl rfl rfl (gy (y_load1 ld_41 rfl m0 rfl)) rfl ?_
   intro _ _
   refine dV 10 rfl (y_fadd (a := (q1.y + a2)) (b := a3) rfl rfl (by omega) (RF_F (by omega)) (by omega)) ?_
   refine dV 11 rfl (y_fieldAddr fo_50_1 rfl) ?_
   refine d_ready (i := 12) (rs := []) (by kernel_rfl) .nil (all_one ?_)
   refine o_does rfl rfl rfl (g_store1 (cs' := [_, _]) sz_41 rfl rfl rfl rfl rfl rfl .here) ?_
   intro _ _
   refine d_end (by kernel_rfl) .nil ?_
   refine qR ?_
   refine lM rfl ?_
   refine lV (y_loadN (vs := [_, _]) ld_50 rfl m2 rfl rfl) ?_
   refine lV (y_loadN (vs := [_, _]) ld_50 rfl m1 rfl rfl) ?_
   refine lV (y_loadN (vs := [_, _]) ld_50 rfl m0 rfl rfl) ?_
   refine l_call ok_151 rfl rfl (out_tail (A := [_, _, _]) (H1 := (HB bH so1 q1.out.length q1.bx v5 v6 v7 q1.x q1.y q1.fx q1.fy q1.io v13 ((q1.bx).isSome) wd) :: slH so1 (encG q1.out) 77) (fun w9 ha_ hb_ => f151_any w9 bH (M + (k + 8) * 2147483648) q1 so1 v5 v6 v7 v13 wd (Nat.lt_of_le_of_lt (show (M + (k + 8) * 2147483648) ≤ M + 60 * 2147483648 by omega) (by omega)) (hB.mono (by omega)) (q1.x + a0) q1.y ((q1.x + a0) + a1) (q1.y + a2) ((q1.x + a0) + a1) ((q1.y + a2) + a3) (by omega) (by omega) (by omega) (by omega) (by omega) (by omega) hok1 (by omega) hb_)) ?_
   intro so_1 hok_1
   have hB_1 := curveA_bd (hB.mono (N := (M + (k + 8) * 2147483648)) (by omega)) (show ((q1.x + a0)).natAbs ≤ _ by omega) (show (q1.y).natAbs ≤ _ by omega) (show (((q1.x + a0) + a1)).natAbs ≤ _ by omega) (show ((q1.y + a2)).natAbs ≤ _ by omega) (show (((q1.x + a0) + a1)).natAbs ≤ _ by omega) (show (((q1.y + a2) + a3)).natAbs ≤ _ by omega)
   have hl_1 : (curveA q1 (q1.x + a0) q1.y ((q1.x + a0) + a1) (q1.y + a2) ((q1.x + a0) + a1) ((q1.y + a2) + a3)).out.length = q1.out.length + 1 := curveA_len
   refine nR ?_
   refine lV (y_loadN (vs := [_, _]) ld_50 rfl m0 rfl rfl) ?_
   refine l_does rfl rfl (g_storeN (vs := [_, _]) (cs' := [_, _]) sz_50 rfl rfl rfl rfl rfl rfl rfl (.there (.there .here))) ?_
   intro _ _
   refine nQ ?_
   refine c_seq ?_
   refine c_draw [] mixed rfl ?_
   refine dV 0 rfl (y_fieldAddr fo_50_1 rfl) ?_
   refine dM 2 rfl rfl ?_
   refine dM 3 rfl rfl ?_
   refine dV 4 rfl (y_bin rfl rfl rfl (fitI (m := k + 4) (by omega) (by omega))) ?_
   refine dN 5 rfl rfl ?_
   refine dV 6 rfl (y_fieldAddr fo_95_4 rfl) ?_
   refine dV 7 rfl (y_fieldAddr fo_91_0 rfl) ?_
   refine dV 8 rfl (y_indexArr (j := k + 4) ar_89 rfl rfl (blt513 (by omega))) ?_
   refine dV 9 rfl (y_oldLoad1 ld_41 rfl hMb hMS (hMv (k + 4) _ h4)) ?_
   refine d_ready (i := 1) (rs := []) (by kernel_rfl) .nil (all_one ?_)
   refine o_gives rfl rfl rfl (gy (y_load1 ld_41 rfl m2 rfl)) rfl ?_
   intro _ _
   refine dV 10 rfl (y_fadd (a := ((q1.y + a2) + a3)) (b := a4) rfl rfl (by omega) (RF_F (by omega)) (by omega)) ?_
   refine dV 11 rfl (y_fieldAddr fo_50_1 rfl) ?_
   refine d_ready (i := 12) (rs := []) (by kernel_rfl) .nil (all_one ?_)
   refine o_does rfl rfl rfl (g_store1 (cs' := [_, _]) sz_41 rfl rfl rfl rfl rfl rfl (.there (.there .here))) ?_
   intro _ _
   refine d_end (by kernel_rfl) .nil ?_
   refine qR ?_
   refine lV (y_loadN (vs := [_, _]) ld_50 rfl m2 rfl rfl) ?_
   refine l_does rfl rfl (g_storeN (vs := [_, _]) (cs' := [_, _]) sz_50 rfl rfl rfl rfl rfl rfl rfl (.there .here)) ?_
   intro _ _
   refine nQ ?_
   refine c_seq ?_
   refine c_draw [] mixed rfl ?_
   refine dM 0 rfl rfl ?_
   refine dM 1 rfl rfl ?_
   refine dV 2 rfl (y_bin rfl rfl rfl (fitI (m := k + 5) (by omega) (by omega))) ?_
   refine dN 3 rfl rfl ?_
   refine dV 4 rfl (y_fieldAddr fo_95_4 rfl) ?_
   refine dV 5 rfl (y_fieldAddr fo_91_0 rfl) ?_
   refine dV 6 rfl (y_indexArr (j := k + 5) ar_89 rfl rfl (blt513 (by omega))) ?_
   refine dV 7 rfl (y_oldLoad1 ld_41 rfl hMb hMS (hMv (k + 5) _ h5)) ?_
   refine dM 8 rfl rfl ?_
   refine dM 9 rfl rfl ?_
   refine dV 10 rfl (y_bin rfl rfl rfl (fitI (m := k + 6) (by omega) (by omega))) ?_
   refine dN 11 rfl rfl ?_
   refine dV 12 rfl (y_fieldAddr fo_95_4 rfl) ?_
   refine dV 13 rfl (y_fieldAddr fo_91_0 rfl) ?_
   refine dV 14 rfl (y_indexArr (j := k + 6) ar_89 rfl rfl (blt513 (by omega))) ?_
   refine dV 15 rfl (y_oldLoad1 ld_41 rfl hMb hMS (hMv (k + 6) _ h6)) ?_
   refine d_ready (i := 16) (rs := []) (by kernel_rfl) .nil (all_one ?_)
   refine o_call rfl (no_guard rfl) ok_148 rfl rfl (out_one [_] (b := (b9, [] ++ (.float .f64 (F ((q1.x + a0) + a1)) :: .float .f64 (F (((q1.y + a2) + a3) + a4)) :: []), 50)) (fun w9 ha_ hb_ => f148_any w9 b9 [] [] 50 ((q1.x + a0) + a1) (((q1.y + a2) + a3) + a4) a5 a6 (F a5) (F a6) (by omega) (by omega) (RF_F (by omega)) (RF_F (by omega)) (by omega) (by omega) hb_)) ?_
   intro _ _
   refine d_end (by kernel_rfl) .nil ?_
   refine qR ?_
   refine lV (y_loadN (vs := [_, _]) ld_50 rfl m1 rfl rfl) ?_
   refine l_does rfl rfl (g_storeN (vs := [_, _]) (cs' := [_, _]) sz_50 rfl rfl rfl rfl rfl rfl rfl .here) ?_
   intro _ _
   refine nQ ?_
   refine c_seq ?_
   refine c_draw [] mixed rfl ?_
   refine dV 0 rfl (y_fieldAddr fo_50_0 rfl) ?_
   refine dM 2 rfl rfl ?_
   refine dM 3 rfl rfl ?_
   refine dV 4 rfl (y_bin rfl rfl rfl (fitI (m := k + 7) (by omega) (by omega))) ?_
   refine dN 5 rfl rfl ?_
   refine dV 6 rfl (y_fieldAddr fo_95_4 rfl) ?_
   refine dV 7 rfl (y_fieldAddr fo_91_0 rfl) ?_
   refine dV 8 rfl (y_indexArr (j := k + 7) ar_89 rfl rfl (blt513 (by omega))) ?_
   refine dV 9 rfl (y_oldLoad1 ld_41 rfl hMb hMS (hMv (k + 7) _ h7)) ?_
   refine d_ready (i := 1) (rs := []) (by kernel_rfl) .nil (all_one ?_)
   refine o_gives rfl rfl rfl (gy (y_load1 ld_41 rfl m0 rfl)) rfl ?_
   intro _ _
   refine dV 10 rfl (y_fadd (a := (((q1.x + a0) + a1) + a5)) (b := a7) rfl rfl (by omega) (RF_F (by omega)) (by omega)) ?_
   refine dV 11 rfl (y_fieldAddr fo_50_0 rfl) ?_
   refine d_ready (i := 12) (rs := []) (by kernel_rfl) .nil (all_one ?_)
   refine o_does rfl rfl rfl (g_store1 (cs' := [_, _]) sz_41 rfl rfl rfl rfl rfl rfl .here) ?_
   intro _ _
   refine d_end (by kernel_rfl) .nil ?_
   refine q_then ?_
   refine c_seq ?_
   refine cR ?_
   refine lM rfl ?_
   refine lN rfl ?_
   refine lV (y_fieldAddr fo_95_4 rfl) ?_
   refine lV (y_fieldAddr fo_91_1 rfl) ?_
   refine lV (y_oldLoad1 ld_21 rfl hMb hMS hMt) ?_
   refine lM rfl ?_
   refine lV (y_bin rfl rfl rfl (fitI (m := st.length - k) (by omega) (by omega))) ?_
   refine lB rfl rfl rfl rfl ?_
   refine lM rfl ?_
   refine l_split (t := 312) rfl rfl (fun hs312 => ?_) (fun hs312 => ?_)
   ·have h16 : st.length - k < 16 := by simp only [decide_eq_true_eq] at hs312; omega
    refine l_want rfl rfl ?_
    refine lM rfl ?_
    refine l_want rfl rfl ?_
    refine lN rfl ?_
    refine l_want rfl rfl ?_
    refine lV (y_fieldAddr fo_95_4 rfl) ?_
    refine l_want rfl rfl ?_
    refine lV (y_fieldAddr fo_91_1 rfl) ?_
    refine l_want rfl rfl ?_
    refine lV (y_oldLoad1 ld_21 rfl hMb hMS hMt) ?_
    refine l_want rfl rfl ?_
    refine lV (y_bin rfl rfl rfl (andV (by omega))) ?_
    refine l_want rfl rfl ?_
    refine lB rfl rfl rfl rfl ?_
    refine lV (y_pick rfl rfl rfl) ?_
    refine nQ ?_
    refine c_cond rfl (fun hc320 => ?_) (fun hc320 => ?_)
    ·have hk9 : st.length = k + 9 := by simp only [bne_iff_ne, ne_eq] at hc320; omega
     obtain ⟨a8, h8⟩ := at_of (l := st) (i := k + 8) (by omega)
     have n8 := at_opd hq h8
     have hr : lastQ (st.drop (k + 8)) = a8 := by rw [drop_cons h8, List.drop_of_length_le (by omega)]; rfl
     refine c_draw [] mixed rfl ?_
     refine dV 0 rfl (y_fieldAddr fo_50_1 rfl) ?_
     refine dM 2 rfl rfl ?_
     refine dM 3 rfl rfl ?_
     refine dV 4 rfl (y_bin rfl rfl rfl (fitI (m := k + 8) (by omega) (by omega))) ?_
     refine dN 5 rfl rfl ?_
     refine dV 6 rfl (y_fieldAddr fo_95_4 rfl) ?_
     refine dV 7 rfl (y_fieldAddr fo_91_0 rfl) ?_
     refine dV 8 rfl (y_indexArr (j := k + 8) ar_89 rfl rfl (blt513 (by omega))) ?_
     refine dV 9 rfl (y_oldLoad1 ld_41 rfl hMb hMS (hMv (k + 8) _ h8)) ?_
     refine d_ready (i := 1) (rs := []) (by kernel_rfl) .nil (all_one ?_)
     refine o_gives rfl rfl rfl (gy (y_load1 ld_41 rfl m0 rfl)) rfl ?_
     intro _ _
     refine dV 10 rfl (y_fadd (a := ((((q1.y + a2) + a3) + a4) + a6)) (b := a8) rfl rfl (by omega) (RF_F (by omega)) (by omega)) ?_
     refine dV 11 rfl (y_fieldAddr fo_50_1 rfl) ?_
     refine d_ready (i := 12) (rs := []) (by kernel_rfl) .nil (all_one ?_)
     refine o_does rfl rfl rfl (g_store1 (cs' := [_, _]) sz_41 rfl rfl rfl rfl rfl rfl .here) ?_
     intro _ _
     refine d_end (by kernel_rfl) .nil ?_
     refine qG ?_
     refine lM rfl ?_
     refine lV (y_loadN (vs := [_, _]) ld_50 rfl m2 rfl rfl) ?_
     refine lV (y_loadN (vs := [_, _]) ld_50 rfl m1 rfl rfl) ?_
     refine lV (y_loadN (vs := [_, _]) ld_50 rfl m0 rfl rfl) ?_
     refine l_call ok_151 rfl rfl (out_tail (A := [_, _, _]) (H1 := (HB bH so_1 (curveA q1 (q1.x + a0) q1.y ((q1.x + a0) + a1) (q1.y + a2) ((q1.x + a0) + a1) ((q1.y + a2) + a3)).out.length ((curveA q1 (q1.x + a0) q1.y ((q1.x + a0) + a1) (q1.y + a2) ((q1.x + a0) + a1) ((q1.y + a2) + a3)).bx) v5 v6 v7 ((curveA q1 (q1.x + a0) q1.y ((q1.x + a0) + a1) (q1.y + a2) ((q1.x + a0) + a1) ((q1.y + a2) + a3)).x) ((curveA q1 (q1.x + a0) q1.y ((q1.x + a0) + a1) (q1.y + a2) ((q1.x + a0) + a1) ((q1.y + a2) + a3)).y) ((curveA q1 (q1.x + a0) q1.y ((q1.x + a0) + a1) (q1.y + a2) ((q1.x + a0) + a1) ((q1.y + a2) + a3)).fx) ((curveA q1 (q1.x + a0) q1.y ((q1.x + a0) + a1) (q1.y + a2) ((q1.x + a0) + a1) ((q1.y + a2) + a3)).fy) ((curveA q1 (q1.x + a0) q1.y ((q1.x + a0) + a1) (q1.y + a2) ((q1.x + a0) + a1) ((q1.y + a2) + a3)).io) v13 (((curveA q1 (q1.x + a0) q1.y ((q1.x + a0) + a1) (q1.y + a2) ((q1.x + a0) + a1) ((q1.y + a2) + a3)).bx).isSome) wd) :: slH so_1 (encG (curveA q1 (q1.x + a0) q1.y ((q1.x + a0) + a1) (q1.y + a2) ((q1.x + a0) + a1) ((q1.y + a2) + a3)).out) 77) (fun w9 ha_ hb_ => f151_any w9 bH (M + (k + 8) * 2147483648) (curveA q1 (q1.x + a0) q1.y ((q1.x + a0) + a1) (q1.y + a2) ((q1.x + a0) + a1) ((q1.y + a2) + a3)) so_1 v5 v6 v7 v13 wd (Nat.lt_of_le_of_lt (show (M + (k + 8) * 2147483648) ≤ M + 60 * 2147483648 by omega) (by omega)) (hB_1.mono (by omega)) ((q1.x + a0) + a1) (((q1.y + a2) + a3) + a4) (((q1.x + a0) + a1) + a5) ((((q1.y + a2) + a3) + a4) + a6) ((((q1.x + a0) + a1) + a5) + a7) (((((q1.y + a2) + a3) + a4) + a6) + a8) (by omega) (by omega) (by omega) (by omega) (by omega) (by omega) hok_1 (by omega) hb_)) ?_
     intro so_2 hok_2
     have hB_2 := curveA_bd (hB_1.mono (N := (M + (k + 8) * 2147483648)) (by omega)) (show (((q1.x + a0) + a1)).natAbs ≤ _ by omega) (show ((((q1.y + a2) + a3) + a4)).natAbs ≤ _ by omega) (show ((((q1.x + a0) + a1) + a5)).natAbs ≤ _ by omega) (show (((((q1.y + a2) + a3) + a4) + a6)).natAbs ≤ _ by omega) (show (((((q1.x + a0) + a1) + a5) + a7)).natAbs ≤ _ by omega) (show ((((((q1.y + a2) + a3) + a4) + a6) + a8)).natAbs ≤ _ by omega)
     have hl_2 : (curveA (curveA q1 (q1.x + a0) q1.y ((q1.x + a0) + a1) (q1.y + a2) ((q1.x + a0) + a1) ((q1.y + a2) + a3)) ((q1.x + a0) + a1) (((q1.y + a2) + a3) + a4) (((q1.x + a0) + a1) + a5) ((((q1.y + a2) + a3) + a4) + a6) ((((q1.x + a0) + a1) + a5) + a7) (((((q1.y + a2) + a3) + a4) + a6) + a8)).out.length = (curveA q1 (q1.x + a0) q1.y ((q1.x + a0) + a1) (q1.y + a2) ((q1.x + a0) + a1) ((q1.y + a2) + a3)).out.length + 1 := curveA_len
     refine l_nil ?_
     refine q_block ?_
     refine qG ?_
     refine lM rfl ?_
     refine lV (y_bin rfl rfl rfl (fitI (m := k + 8) (by omega) (by omega))) ?_
     refine lA rfl ?_
     refine l_nil ?_
     exact q_rnd (k + 8, (curveA (curveA q1 (q1.x + a0) q1.y ((q1.x + a0) + a1) (q1.y + a2) ((q1.x + a0) + a1) ((q1.y + a2) + a3)) ((q1.x + a0) + a1) (((q1.y + a2) + a3) + a4) (((q1.x + a0) + a1) + a5) ((((q1.y + a2) + a3) + a4) + a6) ((((q1.x + a0) + a1) + a5) + a7) (((((q1.y + a2) + a3) + a4) + a6) + a8)), so_2) ⟨by simp only; omega, by simp only; omega, (by rw [← hE, hd, turn2_t, hr, curveQ_t0, curveQ_f] <;> rfl), hB_2, hok_2, by simp only; omega⟩ (by simp only; omega) ⟨rfl, rfl, rfl, trivial⟩ (.cons (.there (.there (.there .here))) (.skip (.skip (.skip .refl))))
    ·have hr : lastQ (st.drop (k + 8)) = 0 := lastQ_ne (by simp only [bne_eq_false_iff_eq] at hc320; rw [List.length_drop]; omega)
     refine kG ?_
     refine lM rfl ?_
     refine lV (y_loadN (vs := [_, _]) ld_50 rfl m2 rfl rfl) ?_
     refine lV (y_loadN (vs := [_, _]) ld_50 rfl m1 rfl rfl) ?_
     refine lV (y_loadN (vs := [_, _]) ld_50 rfl m0 rfl rfl) ?_
     refine l_call ok_151 rfl rfl (out_tail (A := [_, _, _]) (H1 := (HB bH so_1 (curveA q1 (q1.x + a0) q1.y ((q1.x + a0) + a1) (q1.y + a2) ((q1.x + a0) + a1) ((q1.y + a2) + a3)).out.length ((curveA q1 (q1.x + a0) q1.y ((q1.x + a0) + a1) (q1.y + a2) ((q1.x + a0) + a1) ((q1.y + a2) + a3)).bx) v5 v6 v7 ((curveA q1 (q1.x + a0) q1.y ((q1.x + a0) + a1) (q1.y + a2) ((q1.x + a0) + a1) ((q1.y + a2) + a3)).x) ((curveA q1 (q1.x + a0) q1.y ((q1.x + a0) + a1) (q1.y + a2) ((q1.x + a0) + a1) ((q1.y + a2) + a3)).y) ((curveA q1 (q1.x + a0) q1.y ((q1.x + a0) + a1) (q1.y + a2) ((q1.x + a0) + a1) ((q1.y + a2) + a3)).fx) ((curveA q1 (q1.x + a0) q1.y ((q1.x + a0) + a1) (q1.y + a2) ((q1.x + a0) + a1) ((q1.y + a2) + a3)).fy) ((curveA q1 (q1.x + a0) q1.y ((q1.x + a0) + a1) (q1.y + a2) ((q1.x + a0) + a1) ((q1.y + a2) + a3)).io) v13 (((curveA q1 (q1.x + a0) q1.y ((q1.x + a0) + a1) (q1.y + a2) ((q1.x + a0) + a1) ((q1.y + a2) + a3)).bx).isSome) wd) :: slH so_1 (encG (curveA q1 (q1.x + a0) q1.y ((q1.x + a0) + a1) (q1.y + a2) ((q1.x + a0) + a1) ((q1.y + a2) + a3)).out) 77) (fun w9 ha_ hb_ => f151_any w9 bH (M + (k + 8) * 2147483648) (curveA q1 (q1.x + a0) q1.y ((q1.x + a0) + a1) (q1.y + a2) ((q1.x + a0) + a1) ((q1.y + a2) + a3)) so_1 v5 v6 v7 v13 wd (Nat.lt_of_le_of_lt (show (M + (k + 8) * 2147483648) ≤ M + 60 * 2147483648 by omega) (by omega)) (hB_1.mono (by omega)) ((q1.x + a0) + a1) (((q1.y + a2) + a3) + a4) (((q1.x + a0) + a1) + a5) ((((q1.y + a2) + a3) + a4) + a6) ((((q1.x + a0) + a1) + a5) + a7) ((((q1.y + a2) + a3) + a4) + a6) (by omega) (by omega) (by omega) (by omega) (by omega) (by omega) hok_1 (by omega) hb_)) ?_
     intro so_3 hok_3
     have hB_3 := curveA_bd (hB_1.mono (N := (M + (k + 8) * 2147483648)) (by omega)) (show (((q1.x + a0) + a1)).natAbs ≤ _ by omega) (show ((((q1.y + a2) + a3) + a4)).natAbs ≤ _ by omega) (show ((((q1.x + a0) + a1) + a5)).natAbs ≤ _ by omega) (show (((((q1.y + a2) + a3) + a4) + a6)).natAbs ≤ _ by omega) (show (((((q1.x + a0) + a1) + a5) + a7)).natAbs ≤ _ by omega) (show (((((q1.y + a2) + a3) + a4) + a6)).natAbs ≤ _ by omega)
     have hl_3 : (curveA (curveA q1 (q1.x + a0) q1.y ((q1.x + a0) + a1) (q1.y + a2) ((q1.x + a0) + a1) ((q1.y + a2) + a3)) ((q1.x + a0) + a1) (((q1.y + a2) + a3) + a4) (((q1.x + a0) + a1) + a5) ((((q1.y + a2) + a3) + a4) + a6) ((((q1.x + a0) + a1) + a5) + a7) ((((q1.y + a2) + a3) + a4) + a6)).out.length = (curveA q1 (q1.x + a0) q1.y ((q1.x + a0) + a1) (q1.y + a2) ((q1.x + a0) + a1) ((q1.y + a2) + a3)).out.length + 1 := curveA_len
     refine l_nil ?_
     refine q_block ?_
     refine qG ?_
     refine lM rfl ?_
     refine lV (y_bin rfl rfl rfl (fitI (m := k + 8) (by omega) (by omega))) ?_
     refine lA rfl ?_
     refine l_nil ?_
     exact q_rnd (k + 8, (curveA (curveA q1 (q1.x + a0) q1.y ((q1.x + a0) + a1) (q1.y + a2) ((q1.x + a0) + a1) ((q1.y + a2) + a3)) ((q1.x + a0) + a1) (((q1.y + a2) + a3) + a4) (((q1.x + a0) + a1) + a5) ((((q1.y + a2) + a3) + a4) + a6) ((((q1.x + a0) + a1) + a5) + a7) ((((q1.y + a2) + a3) + a4) + a6)), so_3) ⟨by simp only; omega, by simp only; omega, (by rw [← hE, hd, turn2_t, hr, curveQ_t0, curveQ_f0] <;> rfl), hB_3, hok_3, by simp only; omega⟩ (by simp only; omega) ⟨rfl, rfl, rfl, trivial⟩ (.cons (.there (.there (.there .here))) (.skip (.skip (.skip .refl))))
   ·have h16 : ¬ st.length - k < 16 := by simp only [decide_eq_false_iff_not] at hs312; omega
    have hr : lastQ (st.drop (k + 8)) = 0 := lastQ_ne (by rw [List.length_drop]; omega)
    refine l_not rfl rfl rfl rfl ?_
    refine l_not rfl rfl rfl rfl ?_
    refine l_not rfl rfl rfl rfl ?_
    refine l_not rfl rfl rfl rfl ?_
    refine l_not rfl rfl rfl rfl ?_
    refine l_not rfl rfl rfl rfl ?_
    refine l_not rfl rfl rfl rfl ?_
    refine lV (y_pick rfl rfl rfl) ?_
    refine nQ ?_
    refine c_false rfl rfl ?_
    refine kG ?_
    refine lM rfl ?_
    refine lV (y_loadN (vs := [_, _]) ld_50 rfl m2 rfl rfl) ?_
    refine lV (y_loadN (vs := [_, _]) ld_50 rfl m1 rfl rfl) ?_
    refine lV (y_loadN (vs := [_, _]) ld_50 rfl m0 rfl rfl) ?_
    refine l_call ok_151 rfl rfl (out_tail (A := [_, _, _]) (H1 := (HB bH so_1 (curveA q1 (q1.x + a0) q1.y ((q1.x + a0) + a1) (q1.y + a2) ((q1.x + a0) + a1) ((q1.y + a2) + a3)).out.length ((curveA q1 (q1.x + a0) q1.y ((q1.x + a0) + a1) (q1.y + a2) ((q1.x + a0) + a1) ((q1.y + a2) + a3)).bx) v5 v6 v7 ((curveA q1 (q1.x + a0) q1.y ((q1.x + a0) + a1) (q1.y + a2) ((q1.x + a0) + a1) ((q1.y + a2) + a3)).x) ((curveA q1 (q1.x + a0) q1.y ((q1.x + a0) + a1) (q1.y + a2) ((q1.x + a0) + a1) ((q1.y + a2) + a3)).y) ((curveA q1 (q1.x + a0) q1.y ((q1.x + a0) + a1) (q1.y + a2) ((q1.x + a0) + a1) ((q1.y + a2) + a3)).fx) ((curveA q1 (q1.x + a0) q1.y ((q1.x + a0) + a1) (q1.y + a2) ((q1.x + a0) + a1) ((q1.y + a2) + a3)).fy) ((curveA q1 (q1.x + a0) q1.y ((q1.x + a0) + a1) (q1.y + a2) ((q1.x + a0) + a1) ((q1.y + a2) + a3)).io) v13 (((curveA q1 (q1.x + a0) q1.y ((q1.x + a0) + a1) (q1.y + a2) ((q1.x + a0) + a1) ((q1.y + a2) + a3)).bx).isSome) wd) :: slH so_1 (encG (curveA q1 (q1.x + a0) q1.y ((q1.x + a0) + a1) (q1.y + a2) ((q1.x + a0) + a1) ((q1.y + a2) + a3)).out) 77) (fun w9 ha_ hb_ => f151_any w9 bH (M + (k + 8) * 2147483648) (curveA q1 (q1.x + a0) q1.y ((q1.x + a0) + a1) (q1.y + a2) ((q1.x + a0) + a1) ((q1.y + a2) + a3)) so_1 v5 v6 v7 v13 wd (Nat.lt_of_le_of_lt (show (M + (k + 8) * 2147483648) ≤ M + 60 * 2147483648 by omega) (by omega)) (hB_1.mono (by omega)) ((q1.x + a0) + a1) (((q1.y + a2) + a3) + a4) (((q1.x + a0) + a1) + a5) ((((q1.y + a2) + a3) + a4) + a6) ((((q1.x + a0) + a1) + a5) + a7) ((((q1.y + a2) + a3) + a4) + a6) (by omega) (by omega) (by omega) (by omega) (by omega) (by omega) hok_1 (by omega) hb_)) ?_
    intro so_4 hok_4
    have hB_4 := curveA_bd (hB_1.mono (N := (M + (k + 8) * 2147483648)) (by omega)) (show (((q1.x + a0) + a1)).natAbs ≤ _ by omega) (show ((((q1.y + a2) + a3) + a4)).natAbs ≤ _ by omega) (show ((((q1.x + a0) + a1) + a5)).natAbs ≤ _ by omega) (show (((((q1.y + a2) + a3) + a4) + a6)).natAbs ≤ _ by omega) (show (((((q1.x + a0) + a1) + a5) + a7)).natAbs ≤ _ by omega) (show (((((q1.y + a2) + a3) + a4) + a6)).natAbs ≤ _ by omega)
    have hl_4 : (curveA (curveA q1 (q1.x + a0) q1.y ((q1.x + a0) + a1) (q1.y + a2) ((q1.x + a0) + a1) ((q1.y + a2) + a3)) ((q1.x + a0) + a1) (((q1.y + a2) + a3) + a4) (((q1.x + a0) + a1) + a5) ((((q1.y + a2) + a3) + a4) + a6) ((((q1.x + a0) + a1) + a5) + a7) ((((q1.y + a2) + a3) + a4) + a6)).out.length = (curveA q1 (q1.x + a0) q1.y ((q1.x + a0) + a1) (q1.y + a2) ((q1.x + a0) + a1) ((q1.y + a2) + a3)).out.length + 1 := curveA_len
    refine l_nil ?_
    refine q_block ?_
    refine qG ?_
    refine lM rfl ?_
    refine lV (y_bin rfl rfl rfl (fitI (m := k + 8) (by omega) (by omega))) ?_
    refine lA rfl ?_
    refine l_nil ?_
    exact q_rnd (k + 8, (curveA (curveA q1 (q1.x + a0) q1.y ((q1.x + a0) + a1) (q1.y + a2) ((q1.x + a0) + a1) ((q1.y + a2) + a3)) ((q1.x + a0) + a1) (((q1.y + a2) + a3) + a4) (((q1.x + a0) + a1) + a5) ((((q1.y + a2) + a3) + a4) + a6) ((((q1.x + a0) + a1) + a5) + a7) ((((q1.y + a2) + a3) + a4) + a6)), so_4) ⟨by simp only; omega, by simp only; omega, (by rw [← hE, hd, turn2_t, hr, curveQ_t0, curveQ_f0] <;> rfl), hB_4, hok_4, by simp only; omega⟩ (by simp only; omega) ⟨rfl, rfl, rfl, trivial⟩ (.cons (.there (.there (.there .here))) (.skip (.skip (.skip .refl))))
  ·have hk3 : ¬ k + 8 ≤ st.length := by simp only [decide_eq_false_iff_not] at hc206; omega
   rw [turningQ_short (by rw [List.length_drop]; omega)] at hE
   have hE2 : q1 = turningQ true q st := hE
   subst hE2
   refine c_exit ?_
   refine q_then_exit ?_
   refine q_rnd_exit ?_
   refine q_block_exit ?_
   exact body_ret (rs := []) rfl (vs := []) trivial (out_end so1 hok1 rfl (.cons .here .refl)) _ (.inl rfl)
end Go.Proofs.YtbepljmeflndkaaGreatDoor
