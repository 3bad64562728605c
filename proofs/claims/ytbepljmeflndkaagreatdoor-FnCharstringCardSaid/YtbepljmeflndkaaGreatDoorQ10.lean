/- Part 10 of the proof about FnCharstring. -/
import Derived.Test.YtbepljmeflndkaaGreatDoorQ09
namespace Go.Proofs.YtbepljmeflndkaaGreatDoor
open Go.Eng Go.Fl
set_option maxRecDepth 100000
attribute [local irreducible] IntKind.wrap Int.tdiv Int.tmod Int.emod maxLen F G
set_option maxHeartbeats 4000000 in
theorem f150_any (w : World) (bH M : Nat) (q : QSt) (so : Sv) (v5 v6 v7 v13 : Value) (wd : List Value) (a b c d e f : Int) (hB0 : q.Bd M) (hM : M + 60 * 2147483648 < 2 ^ 53) (o0 : -2147483648 ≤ a ∧ a ≤ 2147483648) (o1 : -2147483648 ≤ b ∧ b ≤ 2147483648) (o2 : -2147483648 ≤ c ∧ c ≤ 2147483648) (o3 : -2147483648 ≤ d ∧ d ≤ 2147483648) (o4 : -2147483648 ≤ e ∧ e ≤ 2147483648) (o5 : -2147483648 ≤ f ∧ f ≤ 2147483648) (hok : slOk so q.out.length 7 (encG q.out)) (hlen : q.out.length ≤ 80000) (hw : Hp w (((HB bH so q.out.length q.bx v5 v6 v7 q.x q.y q.fx q.fy q.io v13 ((q.bx).isSome) wd) :: slH so (encG q.out) 77).map (·.1)) ((HB bH so q.out.length q.bx v5 v6 v7 q.x q.y q.fx q.fy q.io v13 ((q.bx).isSome) wd) :: slH so (encG q.out) 77) w) : Calls Tryz.prog 150 [.pointer (some ⟨bH, 0, none⟩), .agg #[.float .f64 (F a), .float .f64 (F b)], .agg #[.float .f64 (F c), .float .f64 (F d)], .agg #[.float .f64 (F e), .float .f64 (F f)]].toArray w (Out w (((HB bH so q.out.length q.bx v5 v6 v7 q.x q.y q.fx q.fy q.io v13 ((q.bx).isSome) wd) :: slH so (encG q.out) 77).map (·.1)) (fun z : Sv => slOk z (curveQ q a b c d e f).out.length 7 (encG (curveQ q a b c d e f).out)) (fun z => .tuple #[]) (fun z => (HB bH z (curveQ q a b c d e f).out.length ((curveQ q a b c d e f).bx) v5 v6 v7 ((curveQ q a b c d e f).x) ((curveQ q a b c d e f).y) ((curveQ q a b c d e f).fx) ((curveQ q a b c d e f).fy) ((curveQ q a b c d e f).io) v13 (((curveQ q a b c d e f).bx).isSome) wd) :: slH z (encG (curveQ q a b c d e f).out) 77)) := by
 have hqx := nb hB0.x
 have hqy := nb hB0.y
 refine enter (n := 37) Tryz.func150 rfl rfl rfl hw ?_
 refine cR ?_
 refine l_gives rfl rfl (g_box (vs := [_, _]) rfl rfl) rfl ?_
 intro b5 hb5
 refine l_gives rfl rfl (g_box (vs := [_, _]) rfl rfl) rfl ?_
 intro b6 hb6
 refine l_gives rfl rfl (g_box (vs := [_, _]) rfl rfl) rfl ?_
 intro b7 hb7
 refine nR ?_
 refine lM rfl ?_
 refine lN rfl ?_
 refine lV (y_fieldAddr fo_97_5 rfl) ?_
 refine lV (y_loadN (vs := [_, _]) ld_50 rfl m3 rfl rfl) ?_
 refine l_gives rfl rfl (g_alloc ze_50) rfl ?_
 intro b8 hb8
 refine l_does rfl rfl (g_storeN (vs := [_, _]) (cs' := [_, _]) sz_50 rfl rfl rfl rfl rfl rfl rfl .here) ?_
 intro _ _
 refine nR ?_
 refine lV (y_fieldAddr fo_50_0 rfl) ?_
 refine lV (y_load1 ld_41 rfl m3 rfl) ?_
 refine lV (y_fieldAddr fo_50_1 rfl) ?_
 refine lV (y_load1 ld_41 rfl m3 rfl) ?_
 refine l_call ok_148 rfl rfl (out_one [] (b := (b8, [] ++ (.float .f64 (F q.x) :: .float .f64 (F q.y) :: []), 50)) (fun w9 ha_ hb_ => f148_any w9 b8 [] [] 50 q.x q.y a b (F a) (F b) (by omega) (by omega) (RF_F (by omega)) (RF_F (by omega)) (by omega) (by omega) hb_)) ?_
 intro _ _
 refine nR ?_
 refine lV (y_loadN (vs := [_, _]) ld_50 rfl m0 rfl rfl) ?_
 refine l_gives rfl rfl (g_alloc ze_50) rfl ?_
 intro b9 hb9
 refine l_does rfl rfl (g_storeN (vs := [_, _]) (cs' := [_, _]) sz_50 rfl rfl rfl rfl rfl rfl rfl .here) ?_
 intro _ _
 refine nR ?_
 refine lV (y_fieldAddr fo_50_0 rfl) ?_
 refine lV (y_load1 ld_41 rfl m3 rfl) ?_
 refine lV (y_fieldAddr fo_50_1 rfl) ?_
 refine lV (y_load1 ld_41 rfl m3 rfl) ?_
 refine l_call ok_148 rfl rfl (out_one [] (b := (b9, [] ++ (.float .f64 (F (q.x + a)) :: .float .f64 (F (q.y + b)) :: []), 50)) (fun w9 ha_ hb_ => f148_any w9 b9 [] [] 50 (q.x + a) (q.y + b) c d (F c) (F d) (by omega) (by omega) (RF_F (by omega)) (RF_F (by omega)) (by omega) (by omega) hb_)) ?_
 intro _ _
 refine nR ?_
 refine lV (y_loadN (vs := [_, _]) ld_50 rfl m0 rfl rfl) ?_
 refine l_gives rfl rfl (g_alloc ze_50) rfl ?_
 intro b10 hb10
 refine l_does rfl rfl (g_storeN (vs := [_, _]) (cs' := [_, _]) sz_50 rfl rfl rfl rfl rfl rfl rfl .here) ?_
 intro _ _
 refine nR ?_
 refine lV (y_fieldAddr fo_50_0 rfl) ?_
 refine lV (y_load1 ld_41 rfl m3 rfl) ?_
 refine lV (y_fieldAddr fo_50_1 rfl) ?_
 refine lV (y_load1 ld_41 rfl m3 rfl) ?_
 refine l_call ok_148 rfl rfl (out_one [] (b := (b10, [] ++ (.float .f64 (F ((q.x + a) + c)) :: .float .f64 (F ((q.y + b) + d)) :: []), 50)) (fun w9 ha_ hb_ => f148_any w9 b10 [] [] 50 ((q.x + a) + c) ((q.y + b) + d) e f (F e) (F f) (by omega) (by omega) (RF_F (by omega)) (RF_F (by omega)) (by omega) (by omega) hb_)) ?_
 intro _ _
 refine nG ?_
 refine lM rfl ?_
 refine lV (y_loadN (vs := [_, _]) ld_50 rfl m2 rfl rfl) ?_
 refine lV (y_loadN (vs := [_, _]) ld_50 rfl m1 rfl rfl) ?_
 refine lV (y_loadN (vs := [_, _]) ld_50 rfl m0 rfl rfl) ?_
 refine l_call ok_151 rfl rfl (out_tail (A := [_, _, _, _, _, _]) (H1 := (HB bH so q.out.length q.bx v5 v6 v7 q.x q.y q.fx q.fy q.io v13 ((q.bx).isSome) wd) :: slH so (encG q.out) 77) (fun w9 ha_ hb_ => f151_any w9 bH (M + 3 * 2147483648) q so v5 v6 v7 v13 wd (Nat.lt_of_le_of_lt (show (M + 3 * 2147483648) ≤ M + 60 * 2147483648 by omega) (by omega)) (hB0.mono (by omega)) (q.x + a) (q.y + b) ((q.x + a) + c) ((q.y + b) + d) (((q.x + a) + c) + e) (((q.y + b) + d) + f) (by omega) (by omega) (by omega) (by omega) (by omega) (by omega) hok (by omega) hb_)) ?_
 intro so_1 hok_1
 have hB_1 := curveA_bd (hB0.mono (N := (M + 3 * 2147483648)) (by omega)) (show ((q.x + a)).natAbs ≤ _ by omega) (show ((q.y + b)).natAbs ≤ _ by omega) (show (((q.x + a) + c)).natAbs ≤ _ by omega) (show (((q.y + b) + d)).natAbs ≤ _ by omega) (show ((((q.x + a) + c) + e)).natAbs ≤ _ by omega) (show ((((q.y + b) + d) + f)).natAbs ≤ _ by omega)
 have hl_1 : (curveA q (q.x + a) (q.y + b) ((q.x + a) + c) ((q.y + b) + d) (((q.x + a) + c) + e) (((q.y + b) + d) + f)).out.length = q.out.length + 1 := curveA_len
 refine l_nil ?_
 exact body_ret (rs := []) rfl (vs := []) trivial (out_end so_1 hok_1 rfl (.cons (.there (.there (.there (.there (.there (.there .here)))))) (.skip (.skip (.skip (.skip (.skip (.skip .refl)))))))) _ (.inl rfl)
set_option maxHeartbeats 8000000 in
theorem f130_any (w : World) (bH bM M : Nat) (q : QSt) (so : Sv) (v5 v6 v7 v13 : Value) (wd : List Value) (st : List Int) (hn : st.length ≤ 48) (hq : ∀ q ∈ st, Opd q) (hB0 : q.Bd M) (hM : M + 120 * 2147483648 < 2 ^ 53) (hok : slOk so q.out.length 7 (encG q.out)) (hlen : q.out.length ≤ 70000) (he : st.length % 6 = 0) (hR : RdM w (((HB bH so q.out.length q.bx v5 v6 v7 q.x q.y q.fx q.fy q.io v13 ((q.bx).isSome) wd) :: slH so (encG q.out) 77).map (·.1)) bM st) (hw : Hp w (((HB bH so q.out.length q.bx v5 v6 v7 q.x q.y q.fx q.fy q.io v13 ((q.bx).isSome) wd) :: slH so (encG q.out) 77).map (·.1)) ((HB bH so q.out.length q.bx v5 v6 v7 q.x q.y q.fx q.fy q.io v13 ((q.bx).isSome) wd) :: slH so (encG q.out) 77) w) : Calls Tryz.prog 130 [.pointer (some ⟨bH, 0, none⟩), .pointer (some ⟨bM, 0, none⟩)].toArray w (Out w (((HB bH so q.out.length q.bx v5 v6 v7 q.x q.y q.fx q.fy q.io v13 ((q.bx).isSome) wd) :: slH so (encG q.out) 77).map (·.1)) (fun z : Sv => slOk z (curvesQ q st).out.length 7 (encG (curvesQ q st).out)) (fun z => .tuple #[]) (fun z => (HB bH z (curvesQ q st).out.length ((curvesQ q st).bx) v5 v6 v7 ((curvesQ q st).x) ((curvesQ q st).y) ((curvesQ q st).fx) ((curvesQ q st).fy) ((curvesQ q st).io) v13 (((curvesQ q st).bx).isSome) wd) :: slH z (encG (curvesQ q st).out) 77)) := by
 obtain ⟨hMb, hMS, hMt, hMv⟩ := hR
 have hqx0 := nb hB0.x
 have hqy0 := nb hB0.y
 refine enter (n := 67) Tryz.func130 rfl rfl rfl hw ?_
 refine cR ?_
 refine lA rfl ?_
 refine nQ ?_
 refine c_block ?_
 refine c_loop (ι := Nat × QSt × Sv) (φ := fun z => z.1 ≤ st.length ∧ z.1 % 6 = 0 ∧ curvesQ z.2.1 (st.drop z.1) = curvesQ q st ∧ z.2.1.Bd (M + z.1 * 2147483648) ∧ slOk z.2.2 z.2.1.out.length 7 (encG z.2.1.out) ∧ z.2.1.out.length ≤ q.out.length + z.1) (L' := fun z => [(0, .pointer (some ⟨bH, 0, none⟩)), (1, .pointer (some ⟨bM, 0, none⟩)), (4, .int .i32 (z.1 : Nat))]) (H' := fun z => (HB bH z.2.2 z.2.1.out.length z.2.1.bx v5 v6 v7 z.2.1.x z.2.1.y z.2.1.fx z.2.1.fy z.2.1.io v13 ((z.2.1.bx).isSome) wd) :: slH z.2.2 (encG z.2.1.out) 77) (fun z => st.length - z.1) (0, q, so) ⟨Nat.zero_le _, rfl, rfl, by simpa using hB0, hok, Nat.le_refl _⟩ ⟨rfl, rfl, rfl, trivial⟩ (.cons .here .refl) ?_
 intro ⟨k, q1, so1⟩ ⟨hk, hke, hE, hB, hok1, hol⟩
 simp only at hk hke hE hB hok1 hol ⊢
 have hqx := nb hB.x
 have hqy := nb hB.y
 refine c_seq ?_
 refine cR ?_
 refine lM rfl ?_
 refine lV (y_bin rfl rfl rfl (fitI (m := k + 6) (by omega) (by omega))) ?_
 refine lM rfl ?_
 refine lN rfl ?_
 refine lV (y_fieldAddr fo_95_4 rfl) ?_
 refine lV (y_fieldAddr fo_91_1 rfl) ?_
 refine lV (y_oldLoad1 ld_21 rfl hMb hMS hMt) ?_
 refine lB rfl rfl rfl rfl ?_
 refine nQ ?_
 refine c_cond rfl (fun hc12 => ?_) (fun hc12 => ?_)
 ·have hk2 : k + 6 ≤ st.length := by simp only [decide_eq_true_eq] at hc12; omega
  obtain ⟨a0, h0⟩ := at_of (l := st) (i := k) (by omega)
  have n0 := at_opd hq h0
  obtain ⟨a1, h1⟩ := at_of (l := st) (i := k + 1) (by omega)
  have n1 := at_opd hq h1
  obtain ⟨a2, h2⟩ := at_of (l := st) (i := k + 2) (by omega)
  have n2 := at_opd hq h2
  obtain ⟨a3, h3⟩ := at_of (l := st) (i := k + 3) (by omega)
  have n3 := at_opd hq h3
  obtain ⟨a4, h4⟩ := at_of (l := st) (i := k + 4) (by omega)
  have n4 := at_opd hq h4
  obtain ⟨a5, h5⟩ := at_of (l := st) (i := k + 5) (by omega)
  have n5 := at_opd hq h5
  have hd : st.drop k = a0 :: a1 :: a2 :: a3 :: a4 :: a5 :: st.drop (k + 6) := by rw [drop_cons h0, drop_cons h1, drop_cons h2, drop_cons h3, drop_cons h4, drop_cons h5]
  refine kQ ?_
  refine c_seq ?_
  refine c_block ?_
  refine c_draw [] mixed rfl ?_
  refine dM 0 rfl rfl ?_
  refine dM 1 rfl rfl ?_
  refine dM 2 rfl rfl ?_
  refine dN 3 rfl rfl ?_
  refine dV 4 rfl (y_fieldAddr fo_95_4 rfl) ?_
  refine dV 5 rfl (y_fieldAddr fo_91_0 rfl) ?_
  refine dV 6 rfl (y_indexArr (j := k) ar_89 rfl rfl (blt513 (by omega))) ?_
  refine dV 7 rfl (y_oldLoad1 ld_41 rfl hMb hMS (hMv (k) _ h0)) ?_
  refine dM 8 rfl rfl ?_
  refine dM 9 rfl rfl ?_
  refine dV 10 rfl (y_bin rfl rfl rfl (fitI (m := k + 1) (by omega) (by omega))) ?_
  refine dN 11 rfl rfl ?_
  refine dV 12 rfl (y_fieldAddr fo_95_4 rfl) ?_
  refine dV 13 rfl (y_fieldAddr fo_91_0 rfl) ?_
  refine dV 14 rfl (y_indexArr (j := k + 1) ar_89 rfl rfl (blt513 (by omega))) ?_
  refine dV 15 rfl (y_oldLoad1 ld_41 rfl hMb hMS (hMv (k + 1) _ h1)) ?_
  refine dV 16 rfl (y_build1 (out := [_, _]) bp_50 rfl rfl rfl) ?_
  refine dM 17 rfl rfl ?_
  refine dM 18 rfl rfl ?_
  refine dV 19 rfl (y_bin rfl rfl rfl (fitI (m := k + 2) (by omega) (by omega))) ?_
  refine dN 20 rfl rfl ?_
  refine dV 21 rfl (y_fieldAddr fo_95_4 rfl) ?_
  refine dV 22 rfl (y_fieldAddr fo_91_0 rfl) ?_
  refine dV 23 rfl (y_indexArr (j := k + 2) ar_89 rfl rfl (blt513 (by omega))) ?_
  refine dV 24 rfl (y_oldLoad1 ld_41 rfl hMb hMS (hMv (k + 2) _ h2)) ?_
  refine dM 25 rfl rfl ?_
  refine dM 26 rfl rfl ?_
  refine dV 27 rfl (y_bin rfl rfl rfl (fitI (m := k + 3) (by omega) (by omega))) ?_
  refine dN 28 rfl rfl ?_
  refine dV 29 rfl (y_fieldAddr fo_95_4 rfl) ?_
  refine dV 30 rfl (y_fieldAddr fo_91_0 rfl) ?_
  refine dV 31 rfl (y_indexArr (j := k + 3) ar_89 rfl rfl (blt513 (by omega))) ?_
  refine dV 32 rfl (y_oldLoad1 ld_41 rfl hMb hMS (hMv (k + 3) _ h3)) ?_
  refine dV 33 rfl (y_build1 (out := [_, _]) bp_50 rfl rfl rfl) ?_
  refine dM 34 rfl rfl ?_
  refine dM 35 rfl rfl ?_
  refine dV 36 rfl (y_bin rfl rfl rfl (fitI (m := k + 4) (by omega) (by omega))) ?_
  refine dN 37 rfl rfl ?_
  refine dV 38 rfl (y_fieldAddr fo_95_4 rfl) ?_
  refine dV 39 rfl (y_fieldAddr fo_91_0 rfl) ?_
  refine dV 40 rfl (y_indexArr (j := k + 4) ar_89 rfl rfl (blt513 (by omega))) ?_
  refine dV 41 rfl (y_oldLoad1 ld_41 rfl hMb hMS (hMv (k + 4) _ h4)) ?_
  refine dM 42 rfl rfl ?_
  refine dM 43 rfl rfl ?_
  refine dV 44 rfl (y_bin rfl rfl rfl (fitI (m := k + 5) (by omega) (by omega))) ?_
  refine dN 45 rfl rfl ?_
  refine dV 46 rfl (y_fieldAddr fo_95_4 rfl) ?_
  refine dV 47 rfl (y_fieldAddr fo_91_0 rfl) ?_
  refine dV 48 rfl (y_indexArr (j := k + 5) ar_89 rfl rfl (blt513 (by omega))) ?_
  refine dV 49 rfl (y_oldLoad1 ld_41 rfl hMb hMS (hMv (k + 5) _ h5)) ?_
  refine dV 50 rfl (y_build1 (out := [_, _]) bp_50 rfl rfl rfl) ?_
  refine d_ready (i := 51) (rs := []) (by kernel_rfl) .nil (all_one ?_)
  refine o_call rfl (no_guard rfl) ok_150 rfl rfl (out_all (H1 := (HB bH so1 q1.out.length q1.bx v5 v6 v7 q1.x q1.y q1.fx q1.fy q1.io v13 ((q1.bx).isSome) wd) :: slH so1 (encG q1.out) 77) (fun w9 ha_ hb_ => f150_any w9 bH (M + k * 2147483648) q1 so1 v5 v6 v7 v13 wd a0 a1 a2 a3 a4 a5 hB (by omega) n0 n1 n2 n3 n4 n5 hok1 (by omega) hb_)) ?_
  intro so2 hok2
  have hB2 := curveQ_bd (N := M + (k + 6) * 2147483648) hB n0 n1 n2 n3 n4 n5 (by omega)
  have hl2 : (curveQ q1 a0 a1 a2 a3 a4 a5).out.length = q1.out.length + 1 := curveA_len
  refine d_end (by kernel_rfl) .nil ?_
  refine q_block ?_
  refine qG ?_
  refine lM rfl ?_
  refine lV (y_bin rfl rfl rfl (fitI (m := k + 6) (by omega) (by omega))) ?_
  refine lA rfl ?_
  refine l_nil ?_
  exact q_rnd (k + 6, curveQ q1 a0 a1 a2 a3 a4 a5, so2) ⟨by simp only; omega, by simp only; omega, by rw [← hE, hd]; rfl, hB2, hok2, by simp only; omega⟩ (by simp only; omega) ⟨rfl, rfl, rfl, trivial⟩ (.cons .here .refl)
 ·have hk3 : ¬ k + 6 ≤ st.length := by simp only [decide_eq_false_iff_not] at hc12; omega
  have hd : st.drop k = [] := List.drop_of_length_le (by omega)
  rw [hd] at hE
  have hE2 : q1 = curvesQ q st := hE
  subst hE2
  refine c_exit ?_
  refine q_then_exit ?_
  refine q_rnd_exit ?_
  refine q_block_exit ?_
  exact body_ret (rs := []) rfl (vs := []) trivial (out_end so1 hok1 rfl .refl) _ (.inl rfl)
set_option maxHeartbeats 8000000 in
theorem f128_any (w : World) (bH bM M : Nat) (q : QSt) (so : Sv) (v5 v6 v7 v13 : Value) (wd : List Value) (st : List Int) (hn : st.length ≤ 48) (hq : ∀ q ∈ st, Opd q) (hB0 : q.Bd M) (hM : M + 120 * 2147483648 < 2 ^ 53) (hok : slOk so q.out.length 7 (encG q.out)) (hlen : q.out.length ≤ 70000)  (hR : RdM w (((HB bH so q.out.length q.bx v5 v6 v7 q.x q.y q.fx q.fy q.io v13 ((q.bx).isSome) wd) :: slH so (encG q.out) 77).map (·.1)) bM st) (hw : Hp w (((HB bH so q.out.length q.bx v5 v6 v7 q.x q.y q.fx q.fy q.io v13 ((q.bx).isSome) wd) :: slH so (encG q.out) 77).map (·.1)) ((HB bH so q.out.length q.bx v5 v6 v7 q.x q.y q.fx q.fy q.io v13 ((q.bx).isSome) wd) :: slH so (encG q.out) 77) w) : Calls Tryz.prog 128 [.pointer (some ⟨bH, 0, none⟩), .pointer (some ⟨bM, 0, none⟩)].toArray w (Out w (((HB bH so q.out.length q.bx v5 v6 v7 q.x q.y q.fx q.fy q.io v13 ((q.bx).isSome) wd) :: slH so (encG q.out) 77).map (·.1)) (fun z : Sv => slOk z (hvQ true q st).out.length 7 (encG (hvQ true q st).out)) (fun z => .tuple #[]) (fun z => (HB bH z (hvQ true q st).out.length ((hvQ true q st).bx) v5 v6 v7 ((hvQ true q st).x) ((hvQ true q st).y) ((hvQ true q st).fx) ((hvQ true q st).fy) ((hvQ true q st).io) v13 (((hvQ true q st).bx).isSome) wd) :: slH z (encG (hvQ true q st).out) 77)) := by
 obtain ⟨hMb, hMS, hMt, hMv⟩ := hR
 have hqx0 := nb hB0.x
 have hqy0 := nb hB0.y
 refine enter (n := 75) Tryz.func128 rfl rfl rfl hw ?_
 refine cR ?_
 refine lA rfl ?_
 refine nQ ?_
 refine c_seq ?_
 refine c_block ?_
 refine c_loop (ι := Nat × QSt × Sv) (φ := fun z => z.1 ≤ st.length ∧ z.1 % 2 = 0 ∧ hvQ true z.2.1 (st.drop z.1) = hvQ true q st ∧ z.2.1.Bd (M + z.1 * 2147483648) ∧ slOk z.2.2 z.2.1.out.length 7 (encG z.2.1.out) ∧ z.2.1.out.length ≤ q.out.length + z.1) (L' := fun z => [(0, .pointer (some ⟨bH, 0, none⟩)), (1, .pointer (some ⟨bM, 0, none⟩)), (4, .int .i32 (z.1 : Nat))]) (H' := fun z => (HB bH z.2.2 z.2.1.out.length z.2.1.bx v5 v6 v7 z.2.1.x z.2.1.y z.2.1.fx z.2.1.fy z.2.1.io v13 ((z.2.1.bx).isSome) wd) :: slH z.2.2 (encG z.2.1.out) 77) (fun z => st.length - z.1) (0, q, so) ⟨Nat.zero_le _, rfl, rfl, by simpa using hB0, hok, Nat.le_refl _⟩ ⟨rfl, rfl, rfl, trivial⟩ (.cons .here .refl) ?_
 intro ⟨k, q1, so1⟩ ⟨hk, hke, hE, hB, hok1, hol⟩
 simp only at hk hke hE hB hok1 hol ⊢
 have hqx := nb hB.x
 have hqy := nb hB.y
 refine c_seq ?_
 refine cR ?_
 refine lM rfl ?_
 refine lV (y_bin rfl rfl rfl (fitI (m := k + 2) (by omega) (by omega))) ?_
 refine lM rfl ?_
 refine lN rfl ?_
 refine lV (y_fieldAddr fo_95_4 rfl) ?_
 refine lV (y_fieldAddr fo_91_1 rfl) ?_
 refine lV (y_oldLoad1 ld_21 rfl hMb hMS hMt) ?_
 refine lB rfl rfl rfl rfl ?_
 refine nQ ?_
 refine c_cond rfl (fun hc14 => ?_) (fun hc14 => ?_)
 ·have hk2 : k + 2 ≤ st.length := by simp only [decide_eq_true_eq] at hc14; omega
  obtain ⟨a0, h0⟩ := at_of (l := st) (i := k) (by omega)
  have n0 := at_opd hq h0
  obtain ⟨a1, h1⟩ := at_of (l := st) (i := k + 1) (by omega)
  have n1 := at_opd hq h1
  have hd : st.drop k = a0 :: a1 :: st.drop (k + 2) := by rw [drop_cons h0, drop_cons h1]
  refine kQ ?_
  refine c_seq ?_
  refine c_block ?_
  refine cR ?_
  refine lM rfl ?_
  refine lN rfl ?_
  refine lV (y_fieldAddr fo_97_5 rfl) ?_
  refine lV (y_loadN (vs := [_, _]) ld_50 rfl m0 rfl rfl) ?_
  refine l_gives rfl rfl (g_alloc ze_50) rfl ?_
  intro b5 hb5
  refine l_does rfl rfl (g_storeN (vs := [_, _]) (cs' := [_, _]) sz_50 rfl rfl rfl rfl rfl rfl rfl .here) ?_
  intro _ _
  refine nQ ?_
  refine c_seq ?_
  refine c_draw [] mixed rfl ?_
  refine dV 0 rfl (y_fieldAddr fo_50_0 rfl) ?_
  refine dM 2 rfl rfl ?_
  refine dM 3 rfl rfl ?_
  refine dN 4 rfl rfl ?_
  refine dV 5 rfl (y_fieldAddr fo_95_4 rfl) ?_
  refine dV 6 rfl (y_fieldAddr fo_91_0 rfl) ?_
  refine dV 7 rfl (y_indexArr (j := k) ar_89 rfl rfl (blt513 (by omega))) ?_
  refine dV 8 rfl (y_oldLoad1 ld_41 rfl hMb hMS (hMv (k) _ h0)) ?_
  refine d_ready (i := 1) (rs := []) (by kernel_rfl) .nil (all_one ?_)
  refine o_gives rfl rfl rfl (gy (y_load1 ld_41 rfl m0 rfl)) rfl ?_
  intro _ _
  refine dV 9 rfl (y_fadd (a := q1.x) (b := a0) rfl rfl (by omega) (RF_F (by omega)) (by omega)) ?_
  refine dV 10 rfl (y_fieldAddr fo_50_0 rfl) ?_
  refine d_ready (i := 11) (rs := []) (by kernel_rfl) .nil (all_one ?_)
  refine o_does rfl rfl rfl (g_store1 (cs' := [_, _]) sz_41 rfl rfl rfl rfl rfl rfl .here) ?_
  intro _ _
  refine d_end (by kernel_rfl) .nil ?_
  refine qR ?_
  refine lM rfl ?_
  refine lV (y_loadN (vs := [_, _]) ld_50 rfl m0 rfl rfl) ?_
  refine l_call ok_149 rfl rfl (out_tail (A := [_]) (H1 := (HB bH so1 q1.out.length q1.bx v5 v6 v7 q1.x q1.y q1.fx q1.fy q1.io v13 ((q1.bx).isSome) wd) :: slH so1 (encG q1.out) 77) (fun w9 ha_ hb_ => f149_any w9 bH (M + (k + 2) * 2147483648) q1 so1 v5 v6 v7 v13 wd (Nat.lt_of_le_of_lt (show (M + (k + 2) * 2147483648) ≤ M + 60 * 2147483648 by omega) (by omega)) (hB.mono (by omega)) (q1.x + a0) q1.y (by omega) (by omega) hok1 (by omega) hb_)) ?_
  intro so_1 hok_1
  have hB_1 := lineA_bd (hB.mono (N := (M + (k + 2) * 2147483648)) (by omega)) (show ((q1.x + a0)).natAbs ≤ _ by omega) (show (q1.y).natAbs ≤ _ by omega)
  have hl_1 : (lineA q1 (q1.x + a0) q1.y).out.length = q1.out.length + 1 := lineA_len
  refine nQ ?_
  refine c_seq ?_
  refine c_draw [] mixed rfl ?_
  refine dV 0 rfl (y_fieldAddr fo_50_1 rfl) ?_
  refine dM 2 rfl rfl ?_
  refine dM 3 rfl rfl ?_
  refine dV 4 rfl (y_bin rfl rfl rfl (fitI (m := k + 1) (by omega) (by omega))) ?_
  refine dN 5 rfl rfl ?_
  refine dV 6 rfl (y_fieldAddr fo_95_4 rfl) ?_
  refine dV 7 rfl (y_fieldAddr fo_91_0 rfl) ?_
  refine dV 8 rfl (y_indexArr (j := k + 1) ar_89 rfl rfl (blt513 (by omega))) ?_
  refine dV 9 rfl (y_oldLoad1 ld_41 rfl hMb hMS (hMv (k + 1) _ h1)) ?_
  refine d_ready (i := 1) (rs := []) (by kernel_rfl) .nil (all_one ?_)
  refine o_gives rfl rfl rfl (gy (y_load1 ld_41 rfl m0 rfl)) rfl ?_
  intro _ _
  refine dV 10 rfl (y_fadd (a := q1.y) (b := a1) rfl rfl (by omega) (RF_F (by omega)) (by omega)) ?_
  refine dV 11 rfl (y_fieldAddr fo_50_1 rfl) ?_
  refine d_ready (i := 12) (rs := []) (by kernel_rfl) .nil (all_one ?_)
  refine o_does rfl rfl rfl (g_store1 (cs' := [_, _]) sz_41 rfl rfl rfl rfl rfl rfl .here) ?_
  intro _ _
  refine d_end (by kernel_rfl) .nil ?_
  refine qG ?_
  refine lM rfl ?_
  refine lV (y_loadN (vs := [_, _]) ld_50 rfl m0 rfl rfl) ?_
  refine l_call ok_149 rfl rfl (out_tail (A := [_]) (H1 := (HB bH so_1 (lineA q1 (q1.x + a0) q1.y).out.length ((lineA q1 (q1.x + a0) q1.y).bx) v5 v6 v7 ((lineA q1 (q1.x + a0) q1.y).x) ((lineA q1 (q1.x + a0) q1.y).y) ((lineA q1 (q1.x + a0) q1.y).fx) ((lineA q1 (q1.x + a0) q1.y).fy) ((lineA q1 (q1.x + a0) q1.y).io) v13 (((lineA q1 (q1.x + a0) q1.y).bx).isSome) wd) :: slH so_1 (encG (lineA q1 (q1.x + a0) q1.y).out) 77) (fun w9 ha_ hb_ => f149_any w9 bH (M + (k + 2) * 2147483648) (lineA q1 (q1.x + a0) q1.y) so_1 v5 v6 v7 v13 wd (Nat.lt_of_le_of_lt (show (M + (k + 2) * 2147483648) ≤ M + 60 * 2147483648 by omega) (by omega)) (hB_1.mono (by omega)) (q1.x + a0) (q1.y + a1) (by omega) (by omega) hok_1 (by omega) hb_)) ?_
  intro so_2 hok_2
  have hB_2 := lineA_bd (hB_1.mono (N := (M + (k + 2) * 2147483648)) (by omega)) (show ((q1.x + a0)).natAbs ≤ _ by omega) (show ((q1.y + a1)).natAbs ≤ _ by omega)
  have hl_2 : (lineA (lineA q1 (q1.x + a0) q1.y) (q1.x + a0) (q1.y + a1)).out.length = (lineA q1 (q1.x + a0) q1.y).out.length + 1 := lineA_len
  refine l_nil ?_
  refine q_block ?_
  refine qG ?_
  refine lM rfl ?_
  refine lV (y_bin rfl rfl rfl (fitI (m := k + 2) (by omega) (by omega))) ?_
  refine lA rfl ?_
  refine l_nil ?_
  exact q_rnd (k + 2, (lineA (lineA q1 (q1.x + a0) q1.y) (q1.x + a0) (q1.y + a1)), so_2) ⟨by simp only; omega, by simp only; omega, by rw [← hE, hd, hvQ_two_t], hB_2, hok_2, by simp only; omega⟩ (by simp only; omega) ⟨rfl, rfl, rfl, trivial⟩ (.cons (.there .here) (.skip .refl))
 ·have hk3 : ¬ k + 2 ≤ st.length := by simp only [decide_eq_false_iff_not] at hc14; omega
  refine c_exit ?_
  refine q_then_exit ?_
  refine q_rnd_exit ?_
  refine q_block_exit ?_
  refine qR ?_
  refine lM rfl ?_
  refine lM rfl ?_
  refine lN rfl ?_
  refine lV (y_fieldAddr fo_95_4 rfl) ?_
  refine lV (y_fieldAddr fo_91_1 rfl) ?_
  refine lV (y_oldLoad1 ld_21 rfl hMb hMS hMt) ?_
  refine lB rfl rfl rfl rfl ?_
  refine nQ ?_
  refine c_cond rfl (fun hc56 => ?_) (fun hc56 => ?_)
  ·have hk2 : k + 1 ≤ st.length := by simp only [decide_eq_true_eq] at hc56; omega
   obtain ⟨a0, h0⟩ := at_of (l := st) (i := k) (by omega)
   have n0 := at_opd hq h0
   have hd : st.drop k = a0 :: st.drop (k + 1) := by rw [drop_cons h0]
   have hd2 : st.drop (k + 1) = [] := List.drop_of_length_le (by omega)
   refine cR ?_
   refine lM rfl ?_
   refine lN rfl ?_
   refine lV (y_fieldAddr fo_97_5 rfl) ?_
   refine lV (y_loadN (vs := [_, _]) ld_50 rfl m0 rfl rfl) ?_
   refine l_gives rfl rfl (g_alloc ze_50) rfl ?_
   intro b6 hb6
   refine l_does rfl rfl (g_storeN (vs := [_, _]) (cs' := [_, _]) sz_50 rfl rfl rfl rfl rfl rfl rfl .here) ?_
   intro _ _
   refine nQ ?_
   refine c_seq ?_
   refine c_draw [] mixed rfl ?_
   refine dV 0 rfl (y_fieldAddr fo_50_0 rfl) ?_
   refine dM 2 rfl rfl ?_
   refine dM 3 rfl rfl ?_
   refine dN 4 rfl rfl ?_
   refine dV 5 rfl (y_fieldAddr fo_95_4 rfl) ?_
   refine dV 6 rfl (y_fieldAddr fo_91_0 rfl) ?_
   refine dV 7 rfl (y_indexArr (j := k) ar_89 rfl rfl (blt513 (by omega))) ?_
   refine dV 8 rfl (y_oldLoad1 ld_41 rfl hMb hMS (hMv (k) _ h0)) ?_
   refine d_ready (i := 1) (rs := []) (by kernel_rfl) .nil (all_one ?_)
   refine o_gives rfl rfl rfl (gy (y_load1 ld_41 rfl m0 rfl)) rfl ?_
   intro _ _
   refine dV 9 rfl (y_fadd (a := q1.x) (b := a0) rfl rfl (by omega) (RF_F (by omega)) (by omega)) ?_
   refine dV 10 rfl (y_fieldAddr fo_50_0 rfl) ?_
   refine d_ready (i := 11) (rs := []) (by kernel_rfl) .nil (all_one ?_)
   refine o_does rfl rfl rfl (g_store1 (cs' := [_, _]) sz_41 rfl rfl rfl rfl rfl rfl .here) ?_
   intro _ _
   refine d_end (by kernel_rfl) .nil ?_
   refine qG ?_
   refine lM rfl ?_
   refine lV (y_loadN (vs := [_, _]) ld_50 rfl m0 rfl rfl) ?_
   refine l_call ok_149 rfl rfl (out_tail (A := [_]) (H1 := (HB bH so1 q1.out.length q1.bx v5 v6 v7 q1.x q1.y q1.fx q1.fy q1.io v13 ((q1.bx).isSome) wd) :: slH so1 (encG q1.out) 77) (fun w9 ha_ hb_ => f149_any w9 bH (M + (k + 1) * 2147483648) q1 so1 v5 v6 v7 v13 wd (Nat.lt_of_le_of_lt (show (M + (k + 1) * 2147483648) ≤ M + 60 * 2147483648 by omega) (by omega)) (hB.mono (by omega)) (q1.x + a0) q1.y (by omega) (by omega) hok1 (by omega) hb_)) ?_
   intro so_1 hok_1
   have hB_1 := lineA_bd (hB.mono (N := (M + (k + 1) * 2147483648)) (by omega)) (show ((q1.x + a0)).natAbs ≤ _ by omega) (show (q1.y).natAbs ≤ _ by omega)
   have hl_1 : (lineA q1 (q1.x + a0) q1.y).out.length = q1.out.length + 1 := lineA_len
   refine l_nil ?_
   have hE2 : (lineA q1 (q1.x + a0) q1.y) = (hvQ true q st) := by rw [← hE, hd, hd2]; simp only [hvQ, cond_true, cond_false, lineQ_r0, lineQ_0r]
   rw [← hE2]
   exact body_ret (rs := []) rfl (vs := []) trivial (out_end so_1 hok_1 rfl (.cons (.there .here) (.skip .refl))) _ (.inl rfl)
  ·have hd : st.drop k = [] := List.drop_of_length_le (by simp only [decide_eq_false_iff_not] at hc56; omega)
   rw [hd] at hE
   have hE2 : q1 = (hvQ true q st) := hE
   subst hE2
   refine c_skip ?_
   exact body_ret (rs := []) rfl (vs := []) trivial (out_end so1 hok1 rfl (.cons .here .refl)) _ (.inl rfl)
set_option maxHeartbeats 8000000 in
theorem f129_any (w : World) (bH bM M : Nat) (q : QSt) (so : Sv) (v5 v6 v7 v13 : Value) (wd : List Value) (st : List Int) (hn : st.length ≤ 48) (hq : ∀ q ∈ st, Opd q) (hB0 : q.Bd M) (hM : M + 120 * 2147483648 < 2 ^ 53) (hok : slOk so q.out.length 7 (encG q.out)) (hlen : q.out.length ≤ 70000)  (hR : RdM w (((HB bH so q.out.length q.bx v5 v6 v7 q.x q.y q.fx q.fy q.io v13 ((q.bx).isSome) wd) :: slH so (encG q.out) 77).map (·.1)) bM st) (hw : Hp w (((HB bH so q.out.length q.bx v5 v6 v7 q.x q.y q.fx q.fy q.io v13 ((q.bx).isSome) wd) :: slH so (encG q.out) 77).map (·.1)) ((HB bH so q.out.length q.bx v5 v6 v7 q.x q.y q.fx q.fy q.io v13 ((q.bx).isSome) wd) :: slH so (encG q.out) 77) w) : Calls Tryz.prog 129 [.pointer (some ⟨bH, 0, none⟩), .pointer (some ⟨bM, 0, none⟩)].toArray w (Out w (((HB bH so q.out.length q.bx v5 v6 v7 q.x q.y q.fx q.fy q.io v13 ((q.bx).isSome) wd) :: slH so (encG q.out) 77).map (·.1)) (fun z : Sv => slOk z (hvQ false q st).out.length 7 (encG (hvQ false q st).out)) (fun z => .tuple #[]) (fun z => (HB bH z (hvQ false q st).out.length ((hvQ false q st).bx) v5 v6 v7 ((hvQ false q st).x) ((hvQ false q st).y) ((hvQ false q st).fx) ((hvQ false q st).fy) ((hvQ false q st).io) v13 (((hvQ false q st).bx).isSome) wd) :: slH z (encG (hvQ false q st).out) 77)) := by
 obtain ⟨hMb, hMS, hMt, hMv⟩ := hR
 have hqx0 := nb hB0.x
 have hqy0 := nb hB0.y
 refine enter (n := 75) Tryz.func129 rfl rfl rfl hw ?_
 refine cR ?_
 refine lA rfl ?_
 refine nQ ?_
 refine c_seq ?_
 refine c_block ?_
 refine c_loop (ι := Nat × QSt × Sv) (φ := fun z => z.1 ≤ st.length ∧ z.1 % 2 = 0 ∧ hvQ false z.2.1 (st.drop z.1) = hvQ false q st ∧ z.2.1.Bd (M + z.1 * 2147483648) ∧ slOk z.2.2 z.2.1.out.length 7 (encG z.2.1.out) ∧ z.2.1.out.length ≤ q.out.length + z.1) (L' := fun z => [(0, .pointer (some ⟨bH, 0, none⟩)), (1, .pointer (some ⟨bM, 0, none⟩)), (4, .int .i32 (z.1 : Nat))]) (H' := fun z => (HB bH z.2.2 z.2.1.out.length z.2.1.bx v5 v6 v7 z.2.1.x z.2.1.y z.2.1.fx z.2.1.fy z.2.1.io v13 ((z.2.1.bx).isSome) wd) :: slH z.2.2 (encG z.2.1.out) 77) (fun z => st.length - z.1) (0, q, so) ⟨Nat.zero_le _, rfl, rfl, by simpa using hB0, hok, Nat.le_refl _⟩ ⟨rfl, rfl, rfl, trivial⟩ (.cons .here .refl) ?_
 intro ⟨k, q1, so1⟩ ⟨hk, hke, hE, hB, hok1, hol⟩
 simp only at hk hke hE hB hok1 hol ⊢
 have hqx := nb hB.x
 have hqy := nb hB.y
 refine c_seq ?_
 refine cR ?_
 refine lM rfl ?_
 refine lV (y_bin rfl rfl rfl (fitI (m := k + 2) (by omega) (by omega))) ?_
 refine lM rfl ?_
 refine lN rfl ?_
 refine lV (y_fieldAddr fo_95_4 rfl) ?_
 refine lV (y_fieldAddr fo_91_1 rfl) ?_
 refine lV (y_oldLoad1 ld_21 rfl hMb hMS hMt) ?_
 refine lB rfl rfl rfl rfl ?_
 refine nQ ?_
 refine c_cond rfl (fun hc14 => ?_) (fun hc14 => ?_)
 ·have hk2 : k + 2 ≤ st.length := by simp only [decide_eq_true_eq] at hc14; omega
  obtain ⟨a0, h0⟩ := at_of (l := st) (i := k) (by omega)
  have n0 := at_opd hq h0
  obtain ⟨a1, h1⟩ := at_of (l := st) (i := k + 1) (by omega)
  have n1 := at_opd hq h1
  have hd : st.drop k = a0 :: a1 :: st.drop (k + 2) := by rw [drop_cons h0, drop_cons h1]
  refine kQ ?_
  refine c_seq ?_
  refine c_block ?_
  refine cR ?_
  refine lM rfl ?_
  refine lN rfl ?_
  refine lV (y_fieldAddr fo_97_5 rfl) ?_
  refine lV (y_loadN (vs := [_, _]) ld_50 rfl m0 rfl rfl) ?_
  refine l_gives rfl rfl (g_alloc ze_50) rfl ?_
  intro b5 hb5
  refine l_does rfl rfl (g_storeN (vs := [_, _]) (cs' := [_, _]) sz_50 rfl rfl rfl rfl rfl rfl rfl .here) ?_
  intro _ _
  refine nQ ?_
  refine c_seq ?_
  refine c_draw [] mixed rfl ?_
  refine dV 0 rfl (y_fieldAddr fo_50_1 rfl) ?_
  refine dM 2 rfl rfl ?_
  refine dM 3 rfl rfl ?_
  refine dN 4 rfl rfl ?_
  refine dV 5 rfl (y_fieldAddr fo_95_4 rfl) ?_
  refine dV 6 rfl (y_fieldAddr fo_91_0 rfl) ?_
  refine dV 7 rfl (y_indexArr (j := k) ar_89 rfl rfl (blt513 (by omega))) ?_
  refine dV 8 rfl (y_oldLoad1 ld_41 rfl hMb hMS (hMv (k) _ h0)) ?_
  refine d_ready (i := 1) (rs := []) (by kernel_rfl) .nil (all_one ?_)
  refine o_gives rfl rfl rfl (gy (y_load1 ld_41 rfl m0 rfl)) rfl ?_
  intro _ _
  refine dV 9 rfl (y_fadd (a := q1.y) (b := a0) rfl rfl (by omega) (RF_F (by omega)) (by omega)) ?_
  refine dV 10 rfl (y_fieldAddr fo_50_1 rfl) ?_
  refine d_ready (i := 11) (rs := []) (by kernel_rfl) .nil (all_one ?_)
  refine o_does rfl rfl rfl (g_store1 (cs' := [_, _]) sz_41 rfl rfl rfl rfl rfl rfl .here) ?_
  intro _ _
  refine d_end (by kernel_rfl) .nil ?_
  refine qR ?_
  refine lM rfl ?_
  refine lV (y_loadN (vs := [_, _]) ld_50 rfl m0 rfl rfl) ?_
  refine l_call ok_149 rfl rfl (out_tail (A := [_]) (H1 := (HB bH so1 q1.out.length q1.bx v5 v6 v7 q1.x q1.y q1.fx q1.fy q1.io v13 ((q1.bx).isSome) wd) :: slH so1 (encG q1.out) 77) (fun w9 ha_ hb_ => f149_any w9 bH (M + (k + 2) * 2147483648) q1 so1 v5 v6 v7 v13 wd (Nat.lt_of_le_of_lt (show (M + (k + 2) * 2147483648) ≤ M + 60 * 2147483648 by omega) (by omega)) (hB.mono (by omega)) q1.x (q1.y + a0) (by omega) (by omega) hok1 (by omega) hb_)) ?_
  intro so_1 hok_1
  have hB_1 := lineA_bd (hB.mono (N := (M + (k + 2) * 2147483648)) (by omega)) (show (q1.x).natAbs ≤ _ by omega) (show ((q1.y + a0)).natAbs ≤ _ by omega)
  have hl_1 : (lineA q1 q1.x (q1.y + a0)).out.length = q1.out.length + 1 := lineA_len
  refine nQ ?_
  refine c_seq ?_
  refine c_draw [] mixed rfl ?_
  refine dV 0 rfl (y_fieldAddr fo_50_0 rfl) ?_
  refine dM 2 rfl rfl ?_
  refine dM 3 rfl rfl ?_
  refine dV 4 rfl (y_bin rfl rfl rfl (fitI (m := k + 1) (by omega) (by omega))) ?_
  refine dN 5 rfl rfl ?_
  refine dV 6 rfl (y_fieldAddr fo_95_4 rfl) ?_
  refine dV 7 rfl (y_fieldAddr fo_91_0 rfl) ?_
  refine dV 8 rfl (y_indexArr (j := k + 1) ar_89 rfl rfl (blt513 (by omega))) ?_
  refine dV 9 rfl (y_oldLoad1 ld_41 rfl hMb hMS (hMv (k + 1) _ h1)) ?_
  refine d_ready (i := 1) (rs := []) (by kernel_rfl) .nil (all_one ?_)
  refine o_gives rfl rfl rfl (gy (y_load1 ld_41 rfl m0 rfl)) rfl ?_
  intro _ _
  refine dV 10 rfl (y_fadd (a := q1.x) (b := a1) rfl rfl (by omega) (RF_F (by omega)) (by omega)) ?_
  refine dV 11 rfl (y_fieldAddr fo_50_0 rfl) ?_
  refine d_ready (i := 12) (rs := []) (by kernel_rfl) .nil (all_one ?_)
  refine o_does rfl rfl rfl (g_store1 (cs' := [_, _]) sz_41 rfl rfl rfl rfl rfl rfl .here) ?_
  intro _ _
  refine d_end (by kernel_rfl) .nil ?_
  refine qG ?_
  refine lM rfl ?_
  refine lV (y_loadN (vs := [_, _]) ld_50 rfl m0 rfl rfl) ?_
  refine l_call ok_149 rfl rfl (out_tail (A := [_]) (H1 := (HB bH so_1 (lineA q1 q1.x (q1.y + a0)).out.length ((lineA q1 q1.x (q1.y + a0)).bx) v5 v6 v7 ((lineA q1 q1.x (q1.y + a0)).x) ((lineA q1 q1.x (q1.y + a0)).y) ((lineA q1 q1.x (q1.y + a0)).fx) ((lineA q1 q1.x (q1.y + a0)).fy) ((lineA q1 q1.x (q1.y + a0)).io) v13 (((lineA q1 q1.x (q1.y + a0)).bx).isSome) wd) :: slH so_1 (encG (lineA q1 q1.x (q1.y + a0)).out) 77) (fun w9 ha_ hb_ => f149_any w9 bH (M + (k + 2) * 2147483648) (lineA q1 q1.x (q1.y + a0)) so_1 v5 v6 v7 v13 wd (Nat.lt_of_le_of_lt (show (M + (k + 2) * 2147483648) ≤ M + 60 * 2147483648 by omega) (by omega)) (hB_1.mono (by omega)) (q1.x + a1) (q1.y + a0) (by omega) (by omega) hok_1 (by omega) hb_)) ?_
  intro so_2 hok_2
  have hB_2 := lineA_bd (hB_1.mono (N := (M + (k + 2) * 2147483648)) (by omega)) (show ((q1.x + a1)).natAbs ≤ _ by omega) (show ((q1.y + a0)).natAbs ≤ _ by omega)
  have hl_2 : (lineA (lineA q1 q1.x (q1.y + a0)) (q1.x + a1) (q1.y + a0)).out.length = (lineA q1 q1.x (q1.y + a0)).out.length + 1 := lineA_len
  refine l_nil ?_
  refine q_block ?_
  refine qG ?_
  refine lM rfl ?_
  refine lV (y_bin rfl rfl rfl (fitI (m := k + 2) (by omega) (by omega))) ?_
  refine lA rfl ?_
  refine l_nil ?_
  exact q_rnd (k + 2, (lineA (lineA q1 q1.x (q1.y + a0)) (q1.x + a1) (q1.y + a0)), so_2) ⟨by simp only; omega, by simp only; omega, by rw [← hE, hd, hvQ_two_f], hB_2, hok_2, by simp only; omega⟩ (by simp only; omega) ⟨rfl, rfl, rfl, trivial⟩ (.cons (.there .here) (.skip .refl))
 ·have hk3 : ¬ k + 2 ≤ st.length := by simp only [decide_eq_false_iff_not] at hc14; omega
  refine c_exit ?_
  refine q_then_exit ?_
  refine q_rnd_exit ?_
  refine q_block_exit ?_
  refine qR ?_
  refine lM rfl ?_
  refine lM rfl ?_
  refine lN rfl ?_
  refine lV (y_fieldAddr fo_95_4 rfl) ?_
  refine lV (y_fieldAddr fo_91_1 rfl) ?_
  refine lV (y_oldLoad1 ld_21 rfl hMb hMS hMt) ?_
  refine lB rfl rfl rfl rfl ?_
  refine nQ ?_
  refine c_cond rfl (fun hc56 => ?_) (fun hc56 => ?_)
  ·have hk2 : k + 1 ≤ st.length := by simp only [decide_eq_true_eq] at hc56; omega
   obtain ⟨a0, h0⟩ := at_of (l := st) (i := k) (by omega)
   have n0 := at_opd hq h0
   have hd : st.drop k = a0 :: st.drop (k + 1) := by rw [drop_cons h0]
   have hd2 : st.drop (k + 1) = [] := List.drop_of_length_le (by omega)
   refine cR ?_
   refine lM rfl ?_
   refine lN rfl ?_
   refine lV (y_fieldAddr fo_97_5 rfl) ?_
   refine lV (y_loadN (vs := [_, _]) ld_50 rfl m0 rfl rfl) ?_
   refine l_gives rfl rfl (g_alloc ze_50) rfl ?_
   intro b6 hb6
   refine l_does rfl rfl (g_storeN (vs := [_, _]) (cs' := [_, _]) sz_50 rfl rfl rfl rfl rfl rfl rfl .here) ?_
   intro _ _
   refine nQ ?_
   refine c_seq ?_
   refine c_draw [] mixed rfl ?_
   refine dV 0 rfl (y_fieldAddr fo_50_1 rfl) ?_
   refine dM 2 rfl rfl ?_
   refine dM 3 rfl rfl ?_
   refine dN 4 rfl rfl ?_
   refine dV 5 rfl (y_fieldAddr fo_95_4 rfl) ?_
   refine dV 6 rfl (y_fieldAddr fo_91_0 rfl) ?_
   refine dV 7 rfl (y_indexArr (j := k) ar_89 rfl rfl (blt513 (by omega))) ?_
   refine dV 8 rfl (y_oldLoad1 ld_41 rfl hMb hMS (hMv (k) _ h0)) ?_
   refine d_ready (i := 1) (rs := []) (by kernel_rfl) .nil (all_one ?_)
   refine o_gives rfl rfl rfl (gy (y_load1 ld_41 rfl m0 rfl)) rfl ?_
   intro _ _
   refine dV 9 rfl (y_fadd (a := q1.y) (b := a0) rfl rfl (by omega) (RF_F (by omega)) (by omega)) ?_
   refine dV 10 rfl (y_fieldAddr fo_50_1 rfl) ?_
   refine d_ready (i := 11) (rs := []) (by kernel_rfl) .nil (all_one ?_)
   refine o_does rfl rfl rfl (g_store1 (cs' := [_, _]) sz_41 rfl rfl rfl rfl rfl rfl .here) ?_
   intro _ _
   refine d_end (by kernel_rfl) .nil ?_
   refine qG ?_
   refine lM rfl ?_
   refine lV (y_loadN (vs := [_, _]) ld_50 rfl m0 rfl rfl) ?_
   refine l_call ok_149 rfl rfl (out_tail (A := [_]) (H1 := (HB bH so1 q1.out.length q1.bx v5 v6 v7 q1.x q1.y q1.fx q1.fy q1.io v13 ((q1.bx).isSome) wd) :: slH so1 (encG q1.out) 77) (fun w9 ha_ hb_ => f149_any w9 bH (M + (k + 1) * 2147483648) q1 so1 v5 v6 v7 v13 wd (Nat.lt_of_le_of_lt (show (M + (k + 1) * 2147483648) ≤ M + 60 * 2147483648 by omega) (by omega)) (hB.mono (by omega)) q1.x (q1.y + a0) (by omega) (by omega) hok1 (by omega) hb_)) ?_
   intro so_1 hok_1
   have hB_1 := lineA_bd (hB.mono (N := (M + (k + 1) * 2147483648)) (by omega)) (show (q1.x).natAbs ≤ _ by omega) (show ((q1.y + a0)).natAbs ≤ _ by omega)
   have hl_1 : (lineA q1 q1.x (q1.y + a0)).out.length = q1.out.length + 1 := lineA_len
   refine l_nil ?_
   have hE2 : (lineA q1 q1.x (q1.y + a0)) = (hvQ false q st) := by rw [← hE, hd, hd2]; simp only [hvQ, cond_true, cond_false, lineQ_r0, lineQ_0r]
   rw [← hE2]
   exact body_ret (rs := []) rfl (vs := []) trivial (out_end so_1 hok_1 rfl (.cons (.there .here) (.skip .refl))) _ (.inl rfl)
  ·have hd : st.drop k = [] := List.drop_of_length_le (by simp only [decide_eq_false_iff_not] at hc56; omega)
   rw [hd] at hE
   have hE2 : q1 = (hvQ false q st) := hE
   subst hE2
   refine c_skip ?_
   exact body_ret (rs := []) rfl (vs := []) trivial (out_end so1 hok1 rfl (.cons .here .refl)) _ (.inl rfl)
end Go.Proofs.YtbepljmeflndkaaGreatDoor
namespace Go.Proofs.YtbepljmeflndkaaGreatDoor
open Go.Eng Go.Fl
theorem curveQ_h {q : QSt} {a b c d e : Int} : curveQ q a b c d e 0 = curveA q (q.x + a) (q.y + b) (q.x + a + c) (q.y + b + d) (q.x + a + c + e) (q.y + b + d) := by simp [curveQ, curveA]
theorem curveQ_v {q : QSt} {a b c d f : Int} : curveQ q a b c d 0 f = curveA q (q.x + a) (q.y + b) (q.x + a + c) (q.y + b + d) (q.x + a + c) (q.y + b + d + f) := by simp [curveQ, curveA]
theorem curveQ_f {q : QSt} {a b c d e : Int} : curveQ q 0 a b c d e = curveA q q.x (q.y + a) (q.x + b) (q.y + a + c) (q.x + b + d) (q.y + a + c + e) := by simp [curveQ, curveA]
theorem curveQ_f0 {q : QSt} {a b c d : Int} : curveQ q 0 a b c d 0 = curveA q q.x (q.y + a) (q.x + b) (q.y + a + c) (q.x + b + d) (q.y + a + c) := by simp [curveQ, curveA]
theorem curveQ_t {q : QSt} {a b c d e : Int} : curveQ q a 0 b c e d = curveA q (q.x + a) q.y (q.x + a + b) (q.y + c) (q.x + a + b + e) (q.y + c + d) := by simp [curveQ, curveA]
theorem curveQ_t0 {q : QSt} {a b c d : Int} : curveQ q a 0 b c 0 d = curveA q (q.x + a) q.y (q.x + a + b) (q.y + c) (q.x + a + b) (q.y + c + d) := by simp [curveQ, curveA]
theorem turningQ_short {lv : Bool} {q : QSt} {l : List Int} (h : l.length < 4) : turningQ lv q l = q := by
  match l, h with
  | [], _ => rfl
  | [_], _ => rfl
  | [_, _], _ => rfl
  | [_, _, _], _ => rfl
  | _ :: _ :: _ :: _ :: _, h => simp at h; omega
theorem turningQ_step {lv : Bool} {q : QSt} {a b c d : Int} {r : List Int} : turningQ lv q (a :: b :: c :: d :: r) = turningQ (!lv) (bif lv then curveQ q a 0 b c (lastQ r) d else curveQ q 0 a b c d (lastQ r)) r := by
  match r with
  | [] => rfl
  | [e] => rfl
  | e :: f :: r => rfl
theorem turn2_f {q : QSt} {a0 a1 a2 a3 a4 a5 a6 a7 : Int} {r : List Int} : turningQ false q (a0 :: a1 :: a2 :: a3 :: a4 :: a5 :: a6 :: a7 :: r) = turningQ false (curveQ (curveQ q 0 a0 a1 a2 a3 0) a4 0 a5 a6 (lastQ r) a7) r := by
  rw [turningQ_step, turningQ_step]; rfl
theorem turn2_t {q : QSt} {a0 a1 a2 a3 a4 a5 a6 a7 : Int} {r : List Int} : turningQ true q (a0 :: a1 :: a2 :: a3 :: a4 :: a5 :: a6 :: a7 :: r) = turningQ true (curveQ (curveQ q a0 0 a1 a2 0 a3) 0 a4 a5 a6 a7 (lastQ r)) r := by
  rw [turningQ_step, turningQ_step]; rfl
theorem turn1_f {q : QSt} {a0 a1 a2 a3 : Int} {r : List Int} (h : r.length < 4) : turningQ false q (a0 :: a1 :: a2 :: a3 :: r) = curveQ q 0 a0 a1 a2 a3 (lastQ r) := by
  rw [turningQ_step]; exact turningQ_short h
theorem turn1_t {q : QSt} {a0 a1 a2 a3 : Int} {r : List Int} (h : r.length < 4) : turningQ true q (a0 :: a1 :: a2 :: a3 :: r) = curveQ q a0 0 a1 a2 (lastQ r) a3 := by
  rw [turningQ_step]; exact turningQ_short h
theorem lastQ_ge {r : List Int} (h : 2 ≤ r.length) : lastQ r = 0 := lastQ_ne (by omega)
theorem andV {n : Nat} (h : n ≤ 2147483647) : Value.int .i32 (IntKind.i32.wrap ((BitVec.ofInt IntKind.i32.bits (n : Int) &&& BitVec.ofInt IntKind.i32.bits 1).toNat : Nat)) = .int .i32 ((n % 2 : Nat) : Int) := by
  have h1 : (BitVec.ofInt 32 (n : Int) &&& BitVec.ofInt 32 1).toNat = n % 2 := by
    have e1 : BitVec.ofInt 32 (1 : Int) = BitVec.ofNat 32 1 := rfl
    rw [BitVec.toNat_and, e1, BitVec.ofInt_natCast, BitVec.toNat_ofNat, BitVec.toNat_ofNat, Nat.mod_eq_of_lt (by omega), Nat.mod_eq_of_lt (by omega), Nat.and_one_is_mod]
  rw [show IntKind.i32.bits = 32 from rfl, h1]
  exact fitI rfl (by omega)
theorem remI {n : Nat} (k : Nat) {z : Int} (hz : z = k) : Value.int .i32 ((n : Int).tmod z) = .int .i32 ((n % k : Nat) : Int) := by subst hz; rfl
theorem quoI {n : Nat} (k : Nat) {z : Int} (hz : z = k) (hn : n ≤ 2147483647) : Value.int .i32 (IntKind.i32.wrap ((n : Int).tdiv z)) = .int .i32 ((n / k : Nat) : Int) := by
  subst hz
  have h : (n : Int).tdiv (k : Int) = ((n / k : Nat) : Int) := rfl
  rw [h]
  have := Nat.div_le_self n k
  exact fitI rfl (by omega)
theorem straightQ_t {q : QSt} {q0 a b c d : Int} {r : List Int} : straightQ true q q0 (a :: b :: c :: d :: r) = straightQ true (curveA q (q.x + a) (q.y + q0) (q.x + a + b) (q.y + q0 + c) (q.x + a + b + d) (q.y + q0 + c)) 0 r := by
  show straightQ true (curveQ q a q0 b c d 0) 0 r = _
  rw [curveQ_h]
theorem straightQ_f {q : QSt} {q0 a b c d : Int} {r : List Int} : straightQ false q q0 (a :: b :: c :: d :: r) = straightQ false (curveA q (q.x + q0) (q.y + a) (q.x + q0 + b) (q.y + a + c) (q.x + q0 + b) (q.y + a + c + d)) 0 r := by
  show straightQ false (curveQ q q0 a b c 0 d) 0 r = _
  rw [curveQ_v]
theorem straightQ_nil {lv : Bool} {q : QSt} {q0 : Int} : straightQ lv q q0 [] = q := rfl
theorem curveQ_of {q q' : QSt} {X0 Y0 X1 Y1 X2 Y2 a b c d e f : Int} (h : q = q') (h0 : X0 = q'.x + a) (h1 : Y0 = q'.y + b) (h2 : X1 = q'.x + a + c) (h3 : Y1 = q'.y + b + d) (h4 : X2 = q'.x + a + c + e) (h5 : Y2 = q'.y + b + d + f) : curveA q X0 Y0 X1 Y1 X2 Y2 = curveQ q' a b c d e f := by
  subst h h0 h1 h2 h3 h4 h5; rfl
theorem take_at {l : List Int} {m i : Nat} {a : Int} (hi : i < m) (h : l[i]? = some a) : (l.take m)[i]? = some a := by rw [List.getElem?_take, if_pos hi]; exact h
theorem zero50 {b : Nat} {R : Heap} : ((b, [Value.float .f64 0, .float .f64 0], 50) :: R).Perm ((b, [.float .f64 (F 0), .float .f64 (F 0)], 50) :: R) := by rw [F_zero]
end Go.Proofs.YtbepljmeflndkaaGreatDoor
namespace Go.Proofs.YtbepljmeflndkaaGreatDoor
open Go.Eng Go.Fl
set_option maxRecDepth 100000
attribute [local irreducible] IntKind.wrap Int.tdiv Int.tmod Int.emod maxLen F G
set_option maxHeartbeats 8000000 in
theorem f133_any (w : World) (bH bM M : Nat) (q : QSt) (so : Sv) (v5 v6 v7 v13 : Value) (wd : List Value) (st : List Int) (hn : st.length ≤ 48) (hq : ∀ q ∈ st, Opd q) (hB0 : q.Bd M) (hM : M + 120 * 2147483648 < 2 ^ 53) (hok : slOk so q.out.length 7 (encG q.out)) (hlen : q.out.length ≤ 70000) (h4n : 4 ≤ st.length) (h4m : st.length % 4 < 2) (hR : RdM w (((HB bH so q.out.length q.bx v5 v6 v7 q.x q.y q.fx q.fy q.io v13 ((q.bx).isSome) wd) :: slH so (encG q.out) 77).map (·.1)) bM st) (hw : Hp w (((HB bH so q.out.length q.bx v5 v6 v7 q.x q.y q.fx q.fy q.io v13 ((q.bx).isSome) wd) :: slH so (encG q.out) 77).map (·.1)) ((HB bH so q.out.length q.bx v5 v6 v7 q.x q.y q.fx q.fy q.io v13 ((q.bx).isSome) wd) :: slH so (encG q.out) 77) w) : Calls Tryz.prog 133 [.pointer (some ⟨bH, 0, none⟩), .pointer (some ⟨bM, 0, none⟩)].toArray w (Out w (((HB bH so q.out.length q.bx v5 v6 v7 q.x q.y q.fx q.fy q.io v13 ((q.bx).isSome) wd) :: slH so (encG q.out) 77).map (·.1)) (fun z : Sv => slOk z (straightSQ false q st).out.length 7 (encG (straightSQ false q st).out)) (fun z => .tuple #[]) (fun z => (HB bH z (straightSQ false q st).out.length ((straightSQ false q st).bx) v5 v6 v7 ((straightSQ false q st).x) ((straightSQ false q st).y) ((straightSQ false q st).fx) ((straightSQ false q st).fy) ((straightSQ false q st).io) v13 (((straightSQ false q st).bx).isSome) wd) :: slH z (encG (straightSQ false q st).out) 77)) := by
 obtain ⟨hMb, hMS, hMt, hMv⟩ := hR
 have hqx0 := nb hB0.x
 have hqy0 := nb hB0.y
 refine enter (n := 93) Tryz.func133 rfl rfl rfl hw ?_
 refine cR ?_
 refine lA rfl ?_
 refine nR ?_
 refine lM rfl ?_
 refine lN rfl ?_
 refine lV (y_fieldAddr fo_97_5 rfl) ?_
 refine lV (y_loadN (vs := [_, _]) ld_50 rfl m0 rfl rfl) ?_
 refine l_gives rfl rfl (g_alloc ze_50) rfl ?_
 intro b5 hb5
 refine l_does rfl rfl (g_storeN (vs := [_, _]) (cs' := [_, _]) sz_50 rfl rfl rfl rfl rfl rfl rfl .here) ?_
 intro _ _
 refine nQ ?_
 refine c_seq ?_
 refine cR ?_
 refine lM rfl ?_
 refine lN rfl ?_
 refine lV (y_fieldAddr fo_95_4 rfl) ?_
 refine lV (y_fieldAddr fo_91_1 rfl) ?_
 refine lV (y_oldLoad1 ld_21 rfl hMb hMS hMt) ?_
 refine lV (y_bin rfl rfl rfl (andV (by omega))) ?_
 refine lB rfl rfl rfl rfl ?_
 refine nQ ?_
 refine c_cut (ι := Nat × Int × Int × Int) (φ := fun z => z.1 ≤ 1 ∧ (st.length - z.1) % 4 = 0 ∧ straightQ false q z.2.1 (st.drop z.1) = straightSQ false q st ∧ (-2147483648 ≤ z.2.1 ∧ z.2.1 ≤ 2147483648) ∧ z.2.2.1 = q.x + z.2.1 ∧ z.2.2.2 = q.y) (L' := fun z => [(0, .pointer (some ⟨bH, 0, none⟩)), (1, .pointer (some ⟨bM, 0, none⟩)), (4, .int .i32 (z.1 : Nat)), (5, .pointer (some ⟨b5, 0, none⟩))]) (H' := fun z => (b5, [.float .f64 (F z.2.2.1), .float .f64 (F z.2.2.2)], 50) :: (HB bH so q.out.length q.bx v5 v6 v7 q.x q.y q.fx q.fy q.io v13 ((q.bx).isSome) wd) :: slH so (encG q.out) 77) ?_ ?_
 ·refine c_cond rfl (fun hc18 => ?_) (fun hc18 => ?_)
  ·have h41 : st.length % 4 = 1 := by simp only [bne_iff_ne, ne_eq] at hc18; omega
   obtain ⟨a0, sr, rfl, hsr⟩ := consN (l := st) (n := st.length - 1) (by omega)
   have h0 : (a0 :: sr)[0]? = some a0 := rfl
   have n0 := at_opd hq h0
   have hst1 : (a0 :: sr).drop 1 = sr := rfl
   refine c_seq ?_
   refine c_draw [] mixed rfl ?_
   refine dV 0 rfl (y_fieldAddr fo_50_0 rfl) ?_
   refine dM 2 rfl rfl ?_
   refine dM 3 rfl rfl ?_
   refine dN 4 rfl rfl ?_
   refine dV 5 rfl (y_fieldAddr fo_95_4 rfl) ?_
   refine dV 6 rfl (y_fieldAddr fo_91_0 rfl) ?_
   refine dV 7 rfl (y_indexArr (j := 0) ar_89 rfl rfl (blt513 (by omega))) ?_
   refine dV 8 rfl (y_oldLoad1 ld_41 rfl hMb hMS (hMv (0) _ h0)) ?_
   refine d_ready (i := 1) (rs := []) (by kernel_rfl) .nil (all_one ?_)
   refine o_gives rfl rfl rfl (gy (y_load1 ld_41 rfl m0 rfl)) rfl ?_
   intro _ _
   refine dV 9 rfl (y_fadd (a := q.x) (b := a0) rfl rfl (by omega) (RF_F (by omega)) (by omega)) ?_
   refine dV 10 rfl (y_fieldAddr fo_50_0 rfl) ?_
   refine d_ready (i := 11) (rs := []) (by kernel_rfl) .nil (all_one ?_)
   refine o_does rfl rfl rfl (g_store1 (cs' := [_, _]) sz_41 rfl rfl rfl rfl rfl rfl .here) ?_
   intro _ _
   refine d_end (by kernel_rfl) .nil ?_
   refine qG ?_
   refine lM rfl ?_
   refine lV (y_bin rfl rfl rfl (fitI (m := 1) (by omega) (by omega))) ?_
   refine lA rfl ?_
   refine l_nil ?_
   exact q_cut (1, a0, (q.x + a0), q.y) ⟨by omega, by omega, by rw [hst1]; unfold straightSQ; rw [h41]; rfl, n0, rfl, rfl⟩ ⟨rfl, rfl, rfl, rfl, trivial⟩ (.cons .here (.cons .here .refl))
  ·have h40 : st.length % 4 = 0 := by simp only [bne_eq_false_iff_eq] at hc18; omega
   refine c_skip ?_
   exact q_cut (0, 0, q.x, q.y) ⟨by omega, by omega, by unfold straightSQ; rw [h40]; rfl, by simp only; omega, ⟨(Int.add_zero _).symm, rfl⟩⟩ ⟨rfl, rfl, rfl, rfl, trivial⟩ (.cons .here (.cons .here .refl))
 intro ⟨i0, q00, px0, py0⟩ ⟨hi1, him, hE0, hq00, hpx0, hpy0⟩
 simp only at hi1 him hE0 hq00 hpx0 hpy0 ⊢
 refine q_then ?_
 refine c_block ?_
 refine c_loop (ι := Nat × QSt × Sv × Int × Int × Int) (φ := fun z => z.1 ≤ st.length ∧ (st.length - z.1) % 4 = 0 ∧ straightQ false z.2.1 z.2.2.2.1 (st.drop z.1) = straightSQ false q st ∧ z.2.1.Bd (M + z.1 * 2147483648) ∧ slOk z.2.2.1 z.2.1.out.length 7 (encG z.2.1.out) ∧ z.2.1.out.length ≤ q.out.length + z.1 ∧ (-2147483648 ≤ z.2.2.2.1 ∧ z.2.2.2.1 ≤ 2147483648) ∧ z.2.2.2.2.1 = z.2.1.x + z.2.2.2.1 ∧ z.2.2.2.2.2 = z.2.1.y) (L' := fun z => [(0, .pointer (some ⟨bH, 0, none⟩)), (1, .pointer (some ⟨bM, 0, none⟩)), (4, .int .i32 (z.1 : Nat)), (5, .pointer (some ⟨b5, 0, none⟩))]) (H' := fun z => (b5, [.float .f64 (F z.2.2.2.2.1), .float .f64 (F z.2.2.2.2.2)], 50) :: (HB bH z.2.2.1 z.2.1.out.length z.2.1.bx v5 v6 v7 z.2.1.x z.2.1.y z.2.1.fx z.2.1.fy z.2.1.io v13 ((z.2.1.bx).isSome) wd) :: slH z.2.2.1 (encG z.2.1.out) 77) (fun z => st.length - z.1) (i0, q, so, q00, px0, py0) ⟨by simp only; omega, him, hE0, hB0.mono (by simp), hok, by simp only; omega, hq00, hpx0, hpy0⟩ ⟨rfl, rfl, rfl, rfl, trivial⟩ (.cons .here (.cons .here .refl)) ?_
 intro ⟨k, q1, so1, q0, px, py⟩ ⟨hk, hke, hE, hB, hok1, hol, hq0, hpx, hpy⟩
 simp only at hk hke hE hB hok1 hol hq0 hpx hpy ⊢
 subst hpx hpy
 have hqx := nb hB.x
 have hqy := nb hB.y
 refine c_seq ?_
 refine cR ?_
 refine lM rfl ?_
 refine lV (y_bin rfl rfl rfl (fitI (m := k + 4) (by omega) (by omega))) ?_
 refine lM rfl ?_
 refine lN rfl ?_
 refine lV (y_fieldAddr fo_95_4 rfl) ?_
 refine lV (y_fieldAddr fo_91_1 rfl) ?_
 refine lV (y_oldLoad1 ld_21 rfl hMb hMS hMt) ?_
 refine lB rfl rfl rfl rfl ?_
 refine nQ ?_
 refine c_cond rfl (fun hc39 => ?_) (fun hc39 => ?_)
 ·have hk2 : k + 4 ≤ st.length := by simp only [decide_eq_true_eq] at hc39; omega
  obtain ⟨a0, h0⟩ := at_of (l := st) (i := k) (by omega)
  have n0 := at_opd hq h0
  obtain ⟨a1, h1⟩ := at_of (l := st) (i := k + 1) (by omega)
  have n1 := at_opd hq h1
  obtain ⟨a2, h2⟩ := at_of (l := st) (i := k + 2) (by omega)
  have n2 := at_opd hq h2
  obtain ⟨a3, h3⟩ := at_of (l := st) (i := k + 3) (by omega)
  have n3 := at_opd hq h3
  have hd : st.drop k = a0 :: a1 :: a2 :: a3 :: st.drop (k + 4) := by rw [drop_cons h0, drop_cons h1, drop_cons h2, drop_cons h3]
  refine kQ ?_
  refine c_seq ?_
  refine c_block ?_
  refine c_seq ?_
  refine c_draw [] mixed rfl ?_
  refine dV 0 rfl (y_fieldAddr fo_50_1 rfl) ?_
  refine dM 2 rfl rfl ?_
  refine dM 3 rfl rfl ?_
  refine dN 4 rfl rfl ?_
  refine dV 5 rfl (y_fieldAddr fo_95_4 rfl) ?_
  refine dV 6 rfl (y_fieldAddr fo_91_0 rfl) ?_
  refine dV 7 rfl (y_indexArr (j := k) ar_89 rfl rfl (blt513 (by omega))) ?_
  refine dV 8 rfl (y_oldLoad1 ld_41 rfl hMb hMS (hMv (k) _ h0)) ?_
  refine d_ready (i := 1) (rs := []) (by kernel_rfl) .nil (all_one ?_)
  refine o_gives rfl rfl rfl (gy (y_load1 ld_41 rfl m0 rfl)) rfl ?_
  intro _ _
  refine dV 9 rfl (y_fadd (a := q1.y) (b := a0) rfl rfl (by omega) (RF_F (by omega)) (by omega)) ?_
  refine dV 10 rfl (y_fieldAddr fo_50_1 rfl) ?_
  refine d_ready (i := 11) (rs := []) (by kernel_rfl) .nil (all_one ?_)
  refine o_does rfl rfl rfl (g_store1 (cs' := [_, _]) sz_41 rfl rfl rfl rfl rfl rfl .here) ?_
  intro _ _
  refine d_end (by kernel_rfl) .nil ?_
  refine qR ?_
  refine lV (y_loadN (vs := [_, _]) ld_50 rfl m0 rfl rfl) ?_
  refine l_gives rfl rfl (g_alloc ze_50) rfl ?_
  intro b6 hb6
  refine l_does rfl rfl (g_storeN (vs := [_, _]) (cs' := [_, _]) sz_50 rfl rfl rfl rfl rfl rfl rfl .here) ?_
  intro _ _
  refine nQ ?_
  refine c_seq ?_
  refine c_draw [] mixed rfl ?_
  refine dM 0 rfl rfl ?_
  refine dM 1 rfl rfl ?_
  refine dV 2 rfl (y_bin rfl rfl rfl (fitI (m := k + 1) (by omega) (by omega))) ?_
  refine dN 3 rfl rfl ?_
  refine dV 4 rfl (y_fieldAddr fo_95_4 rfl) ?_
  refine dV 5 rfl (y_fieldAddr fo_91_0 rfl) ?_
  refine dV 6 rfl (y_indexArr (j := k + 1) ar_89 rfl rfl (blt513 (by omega))) ?_
  refine dV 7 rfl (y_oldLoad1 ld_41 rfl hMb hMS (hMv (k + 1) _ h1)) ?_
  refine dM 8 rfl rfl ?_
  refine dM 9 rfl rfl ?_
  refine dV 10 rfl (y_bin rfl rfl rfl (fitI (m := k + 2) (by omega) (by omega))) ?_
  refine dN 11 rfl rfl ?_
  refine dV 12 rfl (y_fieldAddr fo_95_4 rfl) ?_
  refine dV 13 rfl (y_fieldAddr fo_91_0 rfl) ?_
  refine dV 14 rfl (y_indexArr (j := k + 2) ar_89 rfl rfl (blt513 (by omega))) ?_
  refine dV 15 rfl (y_oldLoad1 ld_41 rfl hMb hMS (hMv (k + 2) _ h2)) ?_
  refine d_ready (i := 16) (rs := []) (by kernel_rfl) .nil (all_one ?_)
  refine o_call rfl (no_guard rfl) ok_148 rfl rfl (out_one [] (b := (b6, [] ++ (.float .f64 (F (q1.x + q0)) :: .float .f64 (F (q1.y + a0)) :: []), 50)) (fun w9 ha_ hb_ => f148_any w9 b6 [] [] 50 (q1.x + q0) (q1.y + a0) a1 a2 (F a1) (F a2) (by omega) (by omega) (RF_F (by omega)) (RF_F (by omega)) (by omega) (by omega) hb_)) ?_
  intro _ _
  refine d_end (by kernel_rfl) .nil ?_
  refine qR ?_
  refine lV (y_loadN (vs := [_, _]) ld_50 rfl m0 rfl rfl) ?_
  refine l_gives rfl rfl (g_alloc ze_50) rfl ?_
  intro b7 hb7
  refine l_does rfl rfl (g_storeN (vs := [_, _]) (cs' := [_, _]) sz_50 rfl rfl rfl rfl rfl rfl rfl .here) ?_
  intro _ _
  refine nQ ?_
  refine c_seq ?_
  refine c_draw [] mixed rfl ?_
  refine dV 0 rfl (y_fieldAddr fo_50_1 rfl) ?_
  refine dM 2 rfl rfl ?_
  refine dM 3 rfl rfl ?_
  refine dV 4 rfl (y_bin rfl rfl rfl (fitI (m := k + 3) (by omega) (by omega))) ?_
  refine dN 5 rfl rfl ?_
  refine dV 6 rfl (y_fieldAddr fo_95_4 rfl) ?_
  refine dV 7 rfl (y_fieldAddr fo_91_0 rfl) ?_
  refine dV 8 rfl (y_indexArr (j := k + 3) ar_89 rfl rfl (blt513 (by omega))) ?_
  refine dV 9 rfl (y_oldLoad1 ld_41 rfl hMb hMS (hMv (k + 3) _ h3)) ?_
  refine d_ready (i := 1) (rs := []) (by kernel_rfl) .nil (all_one ?_)
  refine o_gives rfl rfl rfl (gy (y_load1 ld_41 rfl m0 rfl)) rfl ?_
  intro _ _
  refine dV 10 rfl (y_fadd (a := ((q1.y + a0) + a2)) (b := a3) rfl rfl (by omega) (RF_F (by omega)) (by omega)) ?_
  refine dV 11 rfl (y_fieldAddr fo_50_1 rfl) ?_
  refine d_ready (i := 12) (rs := []) (by kernel_rfl) .nil (all_one ?_)
  refine o_does rfl rfl rfl (g_store1 (cs' := [_, _]) sz_41 rfl rfl rfl rfl rfl rfl .here) ?_
  intro _ _
  refine d_end (by kernel_rfl) .nil ?_
  refine qR ?_
  refine lM rfl ?_
  refine lV (y_loadN (vs := [_, _]) ld_50 rfl m2 rfl rfl) ?_
  refine lV (y_loadN (vs := [_, _]) ld_50 rfl m1 rfl rfl) ?_
  refine lV (y_loadN (vs := [_, _]) ld_50 rfl m0 rfl rfl) ?_
  refine l_call ok_151 rfl rfl (out_tail (A := [_, _, _]) (H1 := (HB bH so1 q1.out.length q1.bx v5 v6 v7 q1.x q1.y q1.fx q1.fy q1.io v13 ((q1.bx).isSome) wd) :: slH so1 (encG q1.out) 77) (fun w9 ha_ hb_ => f151_any w9 bH (M + (k + 4) * 2147483648) q1 so1 v5 v6 v7 v13 wd (Nat.lt_of_le_of_lt (show (M + (k + 4) * 2147483648) ≤ M + 60 * 2147483648 by omega) (by omega)) (hB.mono (by omega)) (q1.x + q0) (q1.y + a0) ((q1.x + q0) + a1) ((q1.y + a0) + a2) ((q1.x + q0) + a1) (((q1.y + a0) + a2) + a3) (by omega) (by omega) (by omega) (by omega) (by omega) (by omega) hok1 (by omega) hb_)) ?_
  intro so_1 hok_1
  have hB_1 := curveA_bd (hB.mono (N := (M + (k + 4) * 2147483648)) (by omega)) (show ((q1.x + q0)).natAbs ≤ _ by omega) (show ((q1.y + a0)).natAbs ≤ _ by omega) (show (((q1.x + q0) + a1)).natAbs ≤ _ by omega) (show (((q1.y + a0) + a2)).natAbs ≤ _ by omega) (show (((q1.x + q0) + a1)).natAbs ≤ _ by omega) (show ((((q1.y + a0) + a2) + a3)).natAbs ≤ _ by omega)
  have hl_1 : (curveA q1 (q1.x + q0) (q1.y + a0) ((q1.x + q0) + a1) ((q1.y + a0) + a2) ((q1.x + q0) + a1) (((q1.y + a0) + a2) + a3)).out.length = q1.out.length + 1 := curveA_len
  refine nG ?_
  refine lM rfl ?_
  refine lN rfl ?_
  refine lV (y_fieldAddr fo_97_5 rfl) ?_
  refine lV (y_loadN (vs := [_, _]) ld_50 rfl m3 rfl rfl) ?_
  refine l_does rfl rfl (g_storeN (vs := [_, _]) (cs' := [_, _]) sz_50 rfl rfl rfl rfl rfl rfl rfl (.there (.there .here))) ?_
  intro _ _
  refine l_nil ?_
  refine q_block ?_
  refine qG ?_
  refine lM rfl ?_
  refine lV (y_bin rfl rfl rfl (fitI (m := k + 4) (by omega) (by omega))) ?_
  refine lA rfl ?_
  refine l_nil ?_
  exact q_rnd (k + 4, (curveA q1 (q1.x + q0) (q1.y + a0) ((q1.x + q0) + a1) ((q1.y + a0) + a2) ((q1.x + q0) + a1) (((q1.y + a0) + a2) + a3)), so_1, 0, ((q1.x + q0) + a1), (((q1.y + a0) + a2) + a3)) ⟨by simp only; omega, by simp only; omega, by rw [← hE, hd, straightQ_f], hB_1, hok_1, by simp only; omega, by simp only; omega, ⟨(Int.add_zero _).symm, rfl⟩⟩ (by simp only; omega) ⟨rfl, rfl, rfl, rfl, trivial⟩ (.cons (.there (.there .here)) (.cons (.there (.there .here)) (.skip (.skip .refl))))
 ·have hd : st.drop k = [] := List.drop_of_length_le (by simp only [decide_eq_false_iff_not] at hc39; omega)
  rw [hd, straightQ_nil] at hE
  have hE2 : q1 = straightSQ false q st := hE
  subst hE2
  refine c_exit ?_
  refine q_then_exit ?_
  refine q_rnd_exit ?_
  refine q_block_exit ?_
  exact body_ret (rs := []) rfl (vs := []) trivial (out_end so1 hok1 rfl (.cons (.there .here) (.skip .refl))) _ (.inl rfl)
set_option maxHeartbeats 8000000 in
theorem f134_any (w : World) (bH bM M : Nat) (q : QSt) (so : Sv) (v5 v6 v7 v13 : Value) (wd : List Value) (st : List Int) (hn : st.length ≤ 48) (hq : ∀ q ∈ st, Opd q) (hB0 : q.Bd M) (hM : M + 120 * 2147483648 < 2 ^ 53) (hok : slOk so q.out.length 7 (encG q.out)) (hlen : q.out.length ≤ 70000) (h4n : 4 ≤ st.length) (h4m : st.length % 4 < 2) (hR : RdM w (((HB bH so q.out.length q.bx v5 v6 v7 q.x q.y q.fx q.fy q.io v13 ((q.bx).isSome) wd) :: slH so (encG q.out) 77).map (·.1)) bM st) (hw : Hp w (((HB bH so q.out.length q.bx v5 v6 v7 q.x q.y q.fx q.fy q.io v13 ((q.bx).isSome) wd) :: slH so (encG q.out) 77).map (·.1)) ((HB bH so q.out.length q.bx v5 v6 v7 q.x q.y q.fx q.fy q.io v13 ((q.bx).isSome) wd) :: slH so (encG q.out) 77) w) : Calls Tryz.prog 134 [.pointer (some ⟨bH, 0, none⟩), .pointer (some ⟨bM, 0, none⟩)].toArray w (Out w (((HB bH so q.out.length q.bx v5 v6 v7 q.x q.y q.fx q.fy q.io v13 ((q.bx).isSome) wd) :: slH so (encG q.out) 77).map (·.1)) (fun z : Sv => slOk z (straightSQ true q st).out.length 7 (encG (straightSQ true q st).out)) (fun z => .tuple #[]) (fun z => (HB bH z (straightSQ true q st).out.length ((straightSQ true q st).bx) v5 v6 v7 ((straightSQ true q st).x) ((straightSQ true q st).y) ((straightSQ true q st).fx) ((straightSQ true q st).fy) ((straightSQ true q st).io) v13 (((straightSQ true q st).bx).isSome) wd) :: slH z (encG (straightSQ true q st).out) 77)) := by
 obtain ⟨hMb, hMS, hMt, hMv⟩ := hR
 have hqx0 := nb hB0.x
 have hqy0 := nb hB0.y
 refine enter (n := 93) Tryz.func134 rfl rfl rfl hw ?_
 refine cR ?_
 refine lA rfl ?_
 refine nR ?_
 refine lM rfl ?_
 refine lN rfl ?_
 refine lV (y_fieldAddr fo_97_5 rfl) ?_
 refine lV (y_loadN (vs := [_, _]) ld_50 rfl m0 rfl rfl) ?_
 refine l_gives rfl rfl (g_alloc ze_50) rfl ?_
 intro b5 hb5
 refine l_does rfl rfl (g_storeN (vs := [_, _]) (cs' := [_, _]) sz_50 rfl rfl rfl rfl rfl rfl rfl .here) ?_
 intro _ _
 refine nQ ?_
 refine c_seq ?_
 refine cR ?_
 refine lM rfl ?_
 refine lN rfl ?_
 refine lV (y_fieldAddr fo_95_4 rfl) ?_
 refine lV (y_fieldAddr fo_91_1 rfl) ?_
 refine lV (y_oldLoad1 ld_21 rfl hMb hMS hMt) ?_
 refine lV (y_bin rfl rfl rfl (andV (by omega))) ?_
 refine lB rfl rfl rfl rfl ?_
 refine nQ ?_
 refine c_cut (ι := Nat × Int × Int × Int) (φ := fun z => z.1 ≤ 1 ∧ (st.length - z.1) % 4 = 0 ∧ straightQ true q z.2.1 (st.drop z.1) = straightSQ true q st ∧ (-2147483648 ≤ z.2.1 ∧ z.2.1 ≤ 2147483648) ∧ z.2.2.1 = q.x ∧ z.2.2.2 = q.y + z.2.1) (L' := fun z => [(0, .pointer (some ⟨bH, 0, none⟩)), (1, .pointer (some ⟨bM, 0, none⟩)), (4, .int .i32 (z.1 : Nat)), (5, .pointer (some ⟨b5, 0, none⟩))]) (H' := fun z => (b5, [.float .f64 (F z.2.2.1), .float .f64 (F z.2.2.2)], 50) :: (HB bH so q.out.length q.bx v5 v6 v7 q.x q.y q.fx q.fy q.io v13 ((q.bx).isSome) wd) :: slH so (encG q.out) 77) ?_ ?_
 ·refine c_cond rfl (fun hc18 => ?_) (fun hc18 => ?_)
  ·have h41 : st.length % 4 = 1 := by simp only [bne_iff_ne, ne_eq] at hc18; omega
   obtain ⟨a0, sr, rfl, hsr⟩ := consN (l := st) (n := st.length - 1) (by omega)
   have h0 : (a0 :: sr)[0]? = some a0 := rfl
   have n0 := at_opd hq h0
   have hst1 : (a0 :: sr).drop 1 = sr := rfl
   refine c_seq ?_
   refine c_draw [] mixed rfl ?_
   refine dV 0 rfl (y_fieldAddr fo_50_1 rfl) ?_
   refine dM 2 rfl rfl ?_
   refine dM 3 rfl rfl ?_
   refine dN 4 rfl rfl ?_
   refine dV 5 rfl (y_fieldAddr fo_95_4 rfl) ?_
   refine dV 6 rfl (y_fieldAddr fo_91_0 rfl) ?_
   refine dV 7 rfl (y_indexArr (j := 0) ar_89 rfl rfl (blt513 (by omega))) ?_
   refine dV 8 rfl (y_oldLoad1 ld_41 rfl hMb hMS (hMv (0) _ h0)) ?_
   refine d_ready (i := 1) (rs := []) (by kernel_rfl) .nil (all_one ?_)
   refine o_gives rfl rfl rfl (gy (y_load1 ld_41 rfl m0 rfl)) rfl ?_
   intro _ _
   refine dV 9 rfl (y_fadd (a := q.y) (b := a0) rfl rfl (by omega) (RF_F (by omega)) (by omega)) ?_
   refine dV 10 rfl (y_fieldAddr fo_50_1 rfl) ?_
   refine d_ready (i := 11) (rs := []) (by kernel_rfl) .nil (all_one ?_)
   refine o_does rfl rfl rfl (g_store1 (cs' := [_, _]) sz_41 rfl rfl rfl rfl rfl rfl .here) ?_
   intro _ _
   refine d_end (by kernel_rfl) .nil ?_
   refine qG ?_
   refine lM rfl ?_
   refine lV (y_bin rfl rfl rfl (fitI (m := 1) (by omega) (by omega))) ?_
   refine lA rfl ?_
   refine l_nil ?_
   exact q_cut (1, a0, q.x, (q.y + a0)) ⟨by omega, by omega, by rw [hst1]; unfold straightSQ; rw [h41]; rfl, n0, rfl, rfl⟩ ⟨rfl, rfl, rfl, rfl, trivial⟩ (.cons .here (.cons .here .refl))
  ·have h40 : st.length % 4 = 0 := by simp only [bne_eq_false_iff_eq] at hc18; omega
   refine c_skip ?_
   exact q_cut (0, 0, q.x, q.y) ⟨by omega, by omega, by unfold straightSQ; rw [h40]; rfl, by simp only; omega, ⟨rfl, (Int.add_zero _).symm⟩⟩ ⟨rfl, rfl, rfl, rfl, trivial⟩ (.cons .here (.cons .here .refl))
 intro ⟨i0, q00, px0, py0⟩ ⟨hi1, him, hE0, hq00, hpx0, hpy0⟩
 simp only at hi1 him hE0 hq00 hpx0 hpy0 ⊢
 refine q_then ?_
 refine c_block ?_
 refine c_loop (ι := Nat × QSt × Sv × Int × Int × Int) (φ := fun z => z.1 ≤ st.length ∧ (st.length - z.1) % 4 = 0 ∧ straightQ true z.2.1 z.2.2.2.1 (st.drop z.1) = straightSQ true q st ∧ z.2.1.Bd (M + z.1 * 2147483648) ∧ slOk z.2.2.1 z.2.1.out.length 7 (encG z.2.1.out) ∧ z.2.1.out.length ≤ q.out.length + z.1 ∧ (-2147483648 ≤ z.2.2.2.1 ∧ z.2.2.2.1 ≤ 2147483648) ∧ z.2.2.2.2.1 = z.2.1.x ∧ z.2.2.2.2.2 = z.2.1.y + z.2.2.2.1) (L' := fun z => [(0, .pointer (some ⟨bH, 0, none⟩)), (1, .pointer (some ⟨bM, 0, none⟩)), (4, .int .i32 (z.1 : Nat)), (5, .pointer (some ⟨b5, 0, none⟩))]) (H' := fun z => (b5, [.float .f64 (F z.2.2.2.2.1), .float .f64 (F z.2.2.2.2.2)], 50) :: (HB bH z.2.2.1 z.2.1.out.length z.2.1.bx v5 v6 v7 z.2.1.x z.2.1.y z.2.1.fx z.2.1.fy z.2.1.io v13 ((z.2.1.bx).isSome) wd) :: slH z.2.2.1 (encG z.2.1.out) 77) (fun z => st.length - z.1) (i0, q, so, q00, px0, py0) ⟨by simp only; omega, him, hE0, hB0.mono (by simp), hok, by simp only; omega, hq00, hpx0, hpy0⟩ ⟨rfl, rfl, rfl, rfl, trivial⟩ (.cons .here (.cons .here .refl)) ?_
 intro ⟨k, q1, so1, q0, px, py⟩ ⟨hk, hke, hE, hB, hok1, hol, hq0, hpx, hpy⟩
 simp only at hk hke hE hB hok1 hol hq0 hpx hpy ⊢
 subst hpx hpy
 have hqx := nb hB.x
 have hqy := nb hB.y
 refine c_seq ?_
 refine cR ?_
 refine lM rfl ?_
 refine lV (y_bin rfl rfl rfl (fitI (m := k + 4) (by omega) (by omega))) ?_
 refine lM rfl ?_
 refine lN rfl ?_
 refine lV (y_fieldAddr fo_95_4 rfl) ?_
 refine lV (y_fieldAddr fo_91_1 rfl) ?_
 refine lV (y_oldLoad1 ld_21 rfl hMb hMS hMt) ?_
 refine lB rfl rfl rfl rfl ?_
 refine nQ ?_
 refine c_cond rfl (fun hc39 => ?_) (fun hc39 => ?_)
 ·have hk2 : k + 4 ≤ st.length := by simp only [decide_eq_true_eq] at hc39; omega
  obtain ⟨a0, h0⟩ := at_of (l := st) (i := k) (by omega)
  have n0 := at_opd hq h0
  obtain ⟨a1, h1⟩ := at_of (l := st) (i := k + 1) (by omega)
  have n1 := at_opd hq h1
  obtain ⟨a2, h2⟩ := at_of (l := st) (i := k + 2) (by omega)
  have n2 := at_opd hq h2
  obtain ⟨a3, h3⟩ := at_of (l := st) (i := k + 3) (by omega)
  have n3 := at_opd hq h3
  have hd : st.drop k = a0 :: a1 :: a2 :: a3 :: st.drop (k + 4) := by rw [drop_cons h0, drop_cons h1, drop_cons h2, drop_cons h3]
  refine kQ ?_
  refine c_seq ?_
  refine c_block ?_
  refine c_seq ?_
  refine c_draw [] mixed rfl ?_
  refine dV 0 rfl (y_fieldAddr fo_50_0 rfl) ?_
  refine dM 2 rfl rfl ?_
  refine dM 3 rfl rfl ?_
  refine dN 4 rfl rfl ?_
  refine dV 5 rfl (y_fieldAddr fo_95_4 rfl) ?_
  refine dV 6 rfl (y_fieldAddr fo_91_0 rfl) ?_
  refine dV 7 rfl (y_indexArr (j := k) ar_89 rfl rfl (blt513 (by omega))) ?_
  refine dV 8 rfl (y_oldLoad1 ld_41 rfl hMb hMS (hMv (k) _ h0)) ?_
  refine d_ready (i := 1) (rs := []) (by kernel_rfl) .nil (all_one ?_)
  refine o_gives rfl rfl rfl (gy (y_load1 ld_41 rfl m0 rfl)) rfl ?_
  intro _ _
  refine dV 9 rfl (y_fadd (a := q1.x) (b := a0) rfl rfl (by omega) (RF_F (by omega)) (by omega)) ?_
  refine dV 10 rfl (y_fieldAddr fo_50_0 rfl) ?_
  refine d_ready (i := 11) (rs := []) (by kernel_rfl) .nil (all_one ?_)
  refine o_does rfl rfl rfl (g_store1 (cs' := [_, _]) sz_41 rfl rfl rfl rfl rfl rfl .here) ?_
  intro _ _
  refine d_end (by kernel_rfl) .nil ?_
  refine qR ?_
  refine lV (y_loadN (vs := [_, _]) ld_50 rfl m0 rfl rfl) ?_
  refine l_gives rfl rfl (g_alloc ze_50) rfl ?_
  intro b6 hb6
  refine l_does rfl rfl (g_storeN (vs := [_, _]) (cs' := [_, _]) sz_50 rfl rfl rfl rfl rfl rfl rfl .here) ?_
  intro _ _
  refine nQ ?_
  refine c_seq ?_
  refine c_draw [] mixed rfl ?_
  refine dM 0 rfl rfl ?_
  refine dM 1 rfl rfl ?_
  refine dV 2 rfl (y_bin rfl rfl rfl (fitI (m := k + 1) (by omega) (by omega))) ?_
  refine dN 3 rfl rfl ?_
  refine dV 4 rfl (y_fieldAddr fo_95_4 rfl) ?_
  refine dV 5 rfl (y_fieldAddr fo_91_0 rfl) ?_
  refine dV 6 rfl (y_indexArr (j := k + 1) ar_89 rfl rfl (blt513 (by omega))) ?_
  refine dV 7 rfl (y_oldLoad1 ld_41 rfl hMb hMS (hMv (k + 1) _ h1)) ?_
  refine dM 8 rfl rfl ?_
  refine dM 9 rfl rfl ?_
  refine dV 10 rfl (y_bin rfl rfl rfl (fitI (m := k + 2) (by omega) (by omega))) ?_
  refine dN 11 rfl rfl ?_
  refine dV 12 rfl (y_fieldAddr fo_95_4 rfl) ?_
  refine dV 13 rfl (y_fieldAddr fo_91_0 rfl) ?_
  refine dV 14 rfl (y_indexArr (j := k + 2) ar_89 rfl rfl (blt513 (by omega))) ?_
  refine dV 15 rfl (y_oldLoad1 ld_41 rfl hMb hMS (hMv (k + 2) _ h2)) ?_
  refine d_ready (i := 16) (rs := []) (by kernel_rfl) .nil (all_one ?_)
  refine o_call rfl (no_guard rfl) ok_148 rfl rfl (out_one [] (b := (b6, [] ++ (.float .f64 (F (q1.x + a0)) :: .float .f64 (F (q1.y + q0)) :: []), 50)) (fun w9 ha_ hb_ => f148_any w9 b6 [] [] 50 (q1.x + a0) (q1.y + q0) a1 a2 (F a1) (F a2) (by omega) (by omega) (RF_F (by omega)) (RF_F (by omega)) (by omega) (by omega) hb_)) ?_
  intro _ _
  refine d_end (by kernel_rfl) .nil ?_
  refine qR ?_
  refine lV (y_loadN (vs := [_, _]) ld_50 rfl m0 rfl rfl) ?_
  refine l_gives rfl rfl (g_alloc ze_50) rfl ?_
  intro b7 hb7
  refine l_does rfl rfl (g_storeN (vs := [_, _]) (cs' := [_, _]) sz_50 rfl rfl rfl rfl rfl rfl rfl .here) ?_
  intro _ _
  refine nQ ?_
  refine c_seq ?_
  refine c_draw [] mixed rfl ?_
  refine dV 0 rfl (y_fieldAddr fo_50_0 rfl) ?_
  refine dM 2 rfl rfl ?_
  refine dM 3 rfl rfl ?_
  refine dV 4 rfl (y_bin rfl rfl rfl (fitI (m := k + 3) (by omega) (by omega))) ?_
  refine dN 5 rfl rfl ?_
  refine dV 6 rfl (y_fieldAddr fo_95_4 rfl) ?_
  refine dV 7 rfl (y_fieldAddr fo_91_0 rfl) ?_
  refine dV 8 rfl (y_indexArr (j := k + 3) ar_89 rfl rfl (blt513 (by omega))) ?_
  refine dV 9 rfl (y_oldLoad1 ld_41 rfl hMb hMS (hMv (k + 3) _ h3)) ?_
  refine d_ready (i := 1) (rs := []) (by kernel_rfl) .nil (all_one ?_)
  refine o_gives rfl rfl rfl (gy (y_load1 ld_41 rfl m0 rfl)) rfl ?_
  intro _ _
  refine dV 10 rfl (y_fadd (a := ((q1.x + a0) + a1)) (b := a3) rfl rfl (by omega) (RF_F (by omega)) (by omega)) ?_
  refine dV 11 rfl (y_fieldAddr fo_50_0 rfl) ?_
  refine d_ready (i := 12) (rs := []) (by kernel_rfl) .nil (all_one ?_)
  refine o_does rfl rfl rfl (g_store1 (cs' := [_, _]) sz_41 rfl rfl rfl rfl rfl rfl .here) ?_
  intro _ _
  refine d_end (by kernel_rfl) .nil ?_
  refine qR ?_
  refine lM rfl ?_
  refine lV (y_loadN (vs := [_, _]) ld_50 rfl m2 rfl rfl) ?_
  refine lV (y_loadN (vs := [_, _]) ld_50 rfl m1 rfl rfl) ?_
  refine lV (y_loadN (vs := [_, _]) ld_50 rfl m0 rfl rfl) ?_
  refine l_call ok_151 rfl rfl (out_tail (A := [_, _, _]) (H1 := (HB bH so1 q1.out.length q1.bx v5 v6 v7 q1.x q1.y q1.fx q1.fy q1.io v13 ((q1.bx).isSome) wd) :: slH so1 (encG q1.out) 77) (fun w9 ha_ hb_ => f151_any w9 bH (M + (k + 4) * 2147483648) q1 so1 v5 v6 v7 v13 wd (Nat.lt_of_le_of_lt (show (M + (k + 4) * 2147483648) ≤ M + 60 * 2147483648 by omega) (by omega)) (hB.mono (by omega)) (q1.x + a0) (q1.y + q0) ((q1.x + a0) + a1) ((q1.y + q0) + a2) (((q1.x + a0) + a1) + a3) ((q1.y + q0) + a2) (by omega) (by omega) (by omega) (by omega) (by omega) (by omega) hok1 (by omega) hb_)) ?_
  intro so_1 hok_1
  have hB_1 := curveA_bd (hB.mono (N := (M + (k + 4) * 2147483648)) (by omega)) (show ((q1.x + a0)).natAbs ≤ _ by omega) (show ((q1.y + q0)).natAbs ≤ _ by omega) (show (((q1.x + a0) + a1)).natAbs ≤ _ by omega) (show (((q1.y + q0) + a2)).natAbs ≤ _ by omega) (show ((((q1.x + a0) + a1) + a3)).natAbs ≤ _ by omega) (show (((q1.y + q0) + a2)).natAbs ≤ _ by omega)
  have hl_1 : (curveA q1 (q1.x + a0) (q1.y + q0) ((q1.x + a0) + a1) ((q1.y + q0) + a2) (((q1.x + a0) + a1) + a3) ((q1.y + q0) + a2)).out.length = q1.out.length + 1 := curveA_len
  refine nG ?_
  refine lM rfl ?_
  refine lN rfl ?_
  refine lV (y_fieldAddr fo_97_5 rfl) ?_
  refine lV (y_loadN (vs := [_, _]) ld_50 rfl m3 rfl rfl) ?_
  refine l_does rfl rfl (g_storeN (vs := [_, _]) (cs' := [_, _]) sz_50 rfl rfl rfl rfl rfl rfl rfl (.there (.there .here))) ?_
  intro _ _
  refine l_nil ?_
  refine q_block ?_
  refine qG ?_
  refine lM rfl ?_
  refine lV (y_bin rfl rfl rfl (fitI (m := k + 4) (by omega) (by omega))) ?_
  refine lA rfl ?_
  refine l_nil ?_
  exact q_rnd (k + 4, (curveA q1 (q1.x + a0) (q1.y + q0) ((q1.x + a0) + a1) ((q1.y + q0) + a2) (((q1.x + a0) + a1) + a3) ((q1.y + q0) + a2)), so_1, 0, (((q1.x + a0) + a1) + a3), ((q1.y + q0) + a2)) ⟨by simp only; omega, by simp only; omega, by rw [← hE, hd, straightQ_t], hB_1, hok_1, by simp only; omega, by simp only; omega, ⟨rfl, (Int.add_zero _).symm⟩⟩ (by simp only; omega) ⟨rfl, rfl, rfl, rfl, trivial⟩ (.cons (.there (.there .here)) (.cons (.there (.there .here)) (.skip (.skip .refl))))
 ·have hd : st.drop k = [] := List.drop_of_length_le (by simp only [decide_eq_false_iff_not] at hc39; omega)
  rw [hd, straightQ_nil] at hE
  have hE2 : q1 = straightSQ true q st := hE
  subst hE2
  refine c_exit ?_
  refine q_then_exit ?_
  refine q_rnd_exit ?_
  refine q_block_exit ?_
  exact body_ret (rs := []) rfl (vs := []) trivial (out_end so1 hok1 rfl (.cons (.there .here) (.skip .refl))) _ (.inl rfl)
end Go.Proofs.YtbepljmeflndkaaGreatDoor
