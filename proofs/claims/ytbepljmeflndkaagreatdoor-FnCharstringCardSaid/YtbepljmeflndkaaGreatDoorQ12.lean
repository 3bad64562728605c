/- Part 12 of the proof about FnCharstring. -/
import Derived.Test.YtbepljmeflndkaaGreatDoorQ10
import Derived.Test.YtbepljmeflndkaaGreatDoorQ09
namespace Go.Proofs.YtbepljmeflndkaaGreatDoor
open Go.Eng Go.Fl
set_option maxRecDepth 100000
attribute [local irreducible] IntKind.wrap Int.tdiv Int.tmod Int.emod maxLen F G
set_option maxHeartbeats 4000000 in
theorem f152_any (w : World) (bH M : Nat) (q : QSt) (so : Sv) (v5 v6 v7 v13 : Value) (wd : List Value) (hM : M < 2 ^ 53) (hB0 : q.Bd M) (X0 Y0 X1 Y1 X2 Y2 X3 Y3 X4 Y4 X5 Y5 : Int) (hX0 : X0.natAbs ≤ M) (hY0 : Y0.natAbs ≤ M) (hX1 : X1.natAbs ≤ M) (hY1 : Y1.natAbs ≤ M) (hX2 : X2.natAbs ≤ M) (hY2 : Y2.natAbs ≤ M) (hX3 : X3.natAbs ≤ M) (hY3 : Y3.natAbs ≤ M) (hX4 : X4.natAbs ≤ M) (hY4 : Y4.natAbs ≤ M) (hX5 : X5.natAbs ≤ M) (hY5 : Y5.natAbs ≤ M) (hok : slOk so q.out.length 7 (encG q.out)) (hlen : q.out.length ≤ 80000) (hw : Hp w (((HB bH so q.out.length q.bx v5 v6 v7 q.x q.y q.fx q.fy q.io v13 ((q.bx).isSome) wd) :: slH so (encG q.out) 77).map (·.1)) ((HB bH so q.out.length q.bx v5 v6 v7 q.x q.y q.fx q.fy q.io v13 ((q.bx).isSome) wd) :: slH so (encG q.out) 77) w) : Calls Tryz.prog 152 [.pointer (some ⟨bH, 0, none⟩), .agg #[.float .f64 (F X0), .float .f64 (F Y0)], .agg #[.float .f64 (F X1), .float .f64 (F Y1)], .agg #[.float .f64 (F X2), .float .f64 (F Y2)], .agg #[.float .f64 (F X3), .float .f64 (F Y3)], .agg #[.float .f64 (F X4), .float .f64 (F Y4)], .agg #[.float .f64 (F X5), .float .f64 (F Y5)]].toArray w (Out w (((HB bH so q.out.length q.bx v5 v6 v7 q.x q.y q.fx q.fy q.io v13 ((q.bx).isSome) wd) :: slH so (encG q.out) 77).map (·.1)) (fun z : Sv => slOk z (curveA (curveA q X0 Y0 X1 Y1 X2 Y2) X3 Y3 X4 Y4 X5 Y5).out.length 7 (encG (curveA (curveA q X0 Y0 X1 Y1 X2 Y2) X3 Y3 X4 Y4 X5 Y5).out)) (fun z => .tuple #[]) (fun z => (HB bH z (curveA (curveA q X0 Y0 X1 Y1 X2 Y2) X3 Y3 X4 Y4 X5 Y5).out.length ((curveA (curveA q X0 Y0 X1 Y1 X2 Y2) X3 Y3 X4 Y4 X5 Y5).bx) v5 v6 v7 ((curveA (curveA q X0 Y0 X1 Y1 X2 Y2) X3 Y3 X4 Y4 X5 Y5).x) ((curveA (curveA q X0 Y0 X1 Y1 X2 Y2) X3 Y3 X4 Y4 X5 Y5).y) ((curveA (curveA q X0 Y0 X1 Y1 X2 Y2) X3 Y3 X4 Y4 X5 Y5).fx) ((curveA (curveA q X0 Y0 X1 Y1 X2 Y2) X3 Y3 X4 Y4 X5 Y5).fy) ((curveA (curveA q X0 Y0 X1 Y1 X2 Y2) X3 Y3 X4 Y4 X5 Y5).io) v13 (((curveA (curveA q X0 Y0 X1 Y1 X2 Y2) X3 Y3 X4 Y4 X5 Y5).bx).isSome) wd) :: slH z (encG (curveA (curveA q X0 Y0 X1 Y1 X2 Y2) X3 Y3 X4 Y4 X5 Y5).out) 77)) := by
 have hqx := nb hB0.x
 have hqy := nb hB0.y
 refine enter (n := 24) Tryz.func152 rfl rfl rfl hw ?_
 refine cR ?_
 refine l_gives rfl rfl (g_box (vs := [_, _]) rfl rfl) rfl ?_
 intro b8 hb8
 refine l_gives rfl rfl (g_box (vs := [_, _]) rfl rfl) rfl ?_
 intro b9 hb9
 refine l_gives rfl rfl (g_box (vs := [_, _]) rfl rfl) rfl ?_
 intro b10 hb10
 refine l_gives rfl rfl (g_box (vs := [_, _]) rfl rfl) rfl ?_
 intro b11 hb11
 refine l_gives rfl rfl (g_box (vs := [_, _]) rfl rfl) rfl ?_
 intro b12 hb12
 refine l_gives rfl rfl (g_box (vs := [_, _]) rfl rfl) rfl ?_
 intro b13 hb13
 refine nR ?_
 refine lM rfl ?_
 refine lV (y_loadN (vs := [_, _]) ld_50 rfl m5 rfl rfl) ?_
 refine lV (y_loadN (vs := [_, _]) ld_50 rfl m4 rfl rfl) ?_
 refine lV (y_loadN (vs := [_, _]) ld_50 rfl m3 rfl rfl) ?_
 refine l_call ok_151 rfl rfl (out_tail (A := [_, _, _, _, _, _]) (H1 := (HB bH so q.out.length q.bx v5 v6 v7 q.x q.y q.fx q.fy q.io v13 ((q.bx).isSome) wd) :: slH so (encG q.out) 77) (fun w9 ha_ hb_ => f151_any w9 bH M q so v5 v6 v7 v13 wd hM (hB0.mono (by omega)) X0 Y0 X1 Y1 X2 Y2 (by omega) (by omega) (by omega) (by omega) (by omega) (by omega) hok (by omega) hb_)) ?_
 intro so_1 hok_1
 have hB_1 := curveA_bd (hB0.mono (N := M) (by omega)) (show (X0).natAbs ≤ _ by omega) (show (Y0).natAbs ≤ _ by omega) (show (X1).natAbs ≤ _ by omega) (show (Y1).natAbs ≤ _ by omega) (show (X2).natAbs ≤ _ by omega) (show (Y2).natAbs ≤ _ by omega)
 have hl_1 : (curveA q X0 Y0 X1 Y1 X2 Y2).out.length = q.out.length + 1 := curveA_len
 refine nG ?_
 refine lM rfl ?_
 refine lV (y_loadN (vs := [_, _]) ld_50 rfl m2 rfl rfl) ?_
 refine lV (y_loadN (vs := [_, _]) ld_50 rfl m1 rfl rfl) ?_
 refine lV (y_loadN (vs := [_, _]) ld_50 rfl m0 rfl rfl) ?_
 refine l_call ok_151 rfl rfl (out_tail (A := [_, _, _, _, _, _]) (H1 := (HB bH so_1 (curveA q X0 Y0 X1 Y1 X2 Y2).out.length ((curveA q X0 Y0 X1 Y1 X2 Y2).bx) v5 v6 v7 ((curveA q X0 Y0 X1 Y1 X2 Y2).x) ((curveA q X0 Y0 X1 Y1 X2 Y2).y) ((curveA q X0 Y0 X1 Y1 X2 Y2).fx) ((curveA q X0 Y0 X1 Y1 X2 Y2).fy) ((curveA q X0 Y0 X1 Y1 X2 Y2).io) v13 (((curveA q X0 Y0 X1 Y1 X2 Y2).bx).isSome) wd) :: slH so_1 (encG (curveA q X0 Y0 X1 Y1 X2 Y2).out) 77) (fun w9 ha_ hb_ => f151_any w9 bH M (curveA q X0 Y0 X1 Y1 X2 Y2) so_1 v5 v6 v7 v13 wd hM (hB_1.mono (by omega)) X3 Y3 X4 Y4 X5 Y5 (by omega) (by omega) (by omega) (by omega) (by omega) (by omega) hok_1 (by omega) hb_)) ?_
 intro so_2 hok_2
 have hB_2 := curveA_bd (hB_1.mono (N := M) (by omega)) (show (X3).natAbs ≤ _ by omega) (show (Y3).natAbs ≤ _ by omega) (show (X4).natAbs ≤ _ by omega) (show (Y4).natAbs ≤ _ by omega) (show (X5).natAbs ≤ _ by omega) (show (Y5).natAbs ≤ _ by omega)
 have hl_2 : (curveA (curveA q X0 Y0 X1 Y1 X2 Y2) X3 Y3 X4 Y4 X5 Y5).out.length = (curveA q X0 Y0 X1 Y1 X2 Y2).out.length + 1 := curveA_len
 refine l_nil ?_
 exact body_ret (rs := []) rfl (vs := []) trivial (out_end so_2 hok_2 rfl (.cons (.there (.there (.there (.there (.there (.there .here)))))) (.skip (.skip (.skip (.skip (.skip (.skip .refl)))))))) _ (.inl rfl)
set_option maxHeartbeats 8000000 in
theorem f137_any (w : World) (bH bM M : Nat) (q : QSt) (so : Sv) (v5 v6 v7 v13 : Value) (wd : List Value) (a0 a1 a2 a3 a4 a5 a6 : Int) (hq : ∀ q ∈ [a0, a1, a2, a3, a4, a5, a6], Opd q) (hB0 : q.Bd M) (hM : M + 120 * 2147483648 < 2 ^ 53) (hok : slOk so q.out.length 7 (encG q.out)) (hlen : q.out.length ≤ 70000) (hR : RdM w (((HB bH so q.out.length q.bx v5 v6 v7 q.x q.y q.fx q.fy q.io v13 ((q.bx).isSome) wd) :: slH so (encG q.out) 77).map (·.1)) bM [a0, a1, a2, a3, a4, a5, a6]) (hw : Hp w (((HB bH so q.out.length q.bx v5 v6 v7 q.x q.y q.fx q.fy q.io v13 ((q.bx).isSome) wd) :: slH so (encG q.out) 77).map (·.1)) ((HB bH so q.out.length q.bx v5 v6 v7 q.x q.y q.fx q.fy q.io v13 ((q.bx).isSome) wd) :: slH so (encG q.out) 77) w) : Calls Tryz.prog 137 [.pointer (some ⟨bH, 0, none⟩), .pointer (some ⟨bM, 0, none⟩)].toArray w (Out w (((HB bH so q.out.length q.bx v5 v6 v7 q.x q.y q.fx q.fy q.io v13 ((q.bx).isSome) wd) :: slH so (encG q.out) 77).map (·.1)) (fun z : Sv => slOk z (curveQ (curveQ q a0 0 a1 a2 a3 0) a4 0 a5 (-a2) a6 0).out.length 7 (encG (curveQ (curveQ q a0 0 a1 a2 a3 0) a4 0 a5 (-a2) a6 0).out)) (fun z => .nilIface) (fun z => (HB bH z (curveQ (curveQ q a0 0 a1 a2 a3 0) a4 0 a5 (-a2) a6 0).out.length ((curveQ (curveQ q a0 0 a1 a2 a3 0) a4 0 a5 (-a2) a6 0).bx) v5 v6 v7 ((curveQ (curveQ q a0 0 a1 a2 a3 0) a4 0 a5 (-a2) a6 0).x) ((curveQ (curveQ q a0 0 a1 a2 a3 0) a4 0 a5 (-a2) a6 0).y) ((curveQ (curveQ q a0 0 a1 a2 a3 0) a4 0 a5 (-a2) a6 0).fx) ((curveQ (curveQ q a0 0 a1 a2 a3 0) a4 0 a5 (-a2) a6 0).fy) ((curveQ (curveQ q a0 0 a1 a2 a3 0) a4 0 a5 (-a2) a6 0).io) v13 (((curveQ (curveQ q a0 0 a1 a2 a3 0) a4 0 a5 (-a2) a6 0).bx).isSome) wd) :: slH z (encG (curveQ (curveQ q a0 0 a1 a2 a3 0) a4 0 a5 (-a2) a6 0).out) 77)) := by
 obtain ⟨hMb, hMS, hMt, hMv⟩ := hR
 have hqx0 := nb hB0.x
 have hqy0 := nb hB0.y
 have h0 : [a0, a1, a2, a3, a4, a5, a6][0]? = some a0 := rfl
 have n0 := at_opd hq h0
 have h1 : [a0, a1, a2, a3, a4, a5, a6][1]? = some a1 := rfl
 have n1 := at_opd hq h1
 have h2 : [a0, a1, a2, a3, a4, a5, a6][2]? = some a2 := rfl
 have n2 := at_opd hq h2
 have h3 : [a0, a1, a2, a3, a4, a5, a6][3]? = some a3 := rfl
 have n3 := at_opd hq h3
 have h4 : [a0, a1, a2, a3, a4, a5, a6][4]? = some a4 := rfl
 have n4 := at_opd hq h4
 have h5 : [a0, a1, a2, a3, a4, a5, a6][5]? = some a5 := rfl
 have n5 := at_opd hq h5
 have h6 : [a0, a1, a2, a3, a4, a5, a6][6]? = some a6 := rfl
 have n6 := at_opd hq h6
 refine enter (n := 101) Tryz.func137 rfl rfl rfl hw ?_
 refine cR ?_
 refine lA rfl ?_
 refine nQ ?_
 refine c_seq ?_
 refine cR ?_
 refine lM rfl ?_
 refine lN rfl ?_
 refine lV (y_fieldAddr fo_95_4 rfl) ?_
 refine lV (y_fieldAddr fo_91_1 rfl) ?_
 refine lV (y_oldLoad1 ld_21 rfl hMb hMS hMt) ?_
 refine lV (y_bin rfl rfl rfl (by rfl)) ?_
 refine nQ ?_
 refine c_false rfl rfl ?_
 refine kR ?_
 refine lM rfl ?_
 refine lN rfl ?_
 refine lV (y_fieldAddr fo_97_5 rfl) ?_
 refine lV (y_loadN (vs := [_, _]) ld_50 rfl m0 rfl rfl) ?_
 refine l_gives rfl rfl (g_alloc ze_50) rfl ?_
 intro b5 hb5
 refine l_does rfl rfl (g_storeN (vs := [_, _]) (cs' := [_, _]) sz_50 rfl rfl rfl rfl rfl rfl rfl .here) ?_
 intro _ _
 refine nQ ?_
 refine c_seq ?_
 refine c_draw [] mixed rfl ?_
 refine dV 0 rfl (y_fieldAddr fo_50_0 rfl) ?_
 refine dM 2 rfl rfl ?_
 refine dN 3 rfl rfl ?_
 refine dV 4 rfl (y_fieldAddr fo_95_4 rfl) ?_
 refine dV 5 rfl (y_fieldAddr fo_91_0 rfl) ?_
 refine dV 6 rfl (y_indexArr (j := 0) ar_89 rfl rfl (blt513 (by omega))) ?_
 refine dV 7 rfl (y_oldLoad1 ld_41 rfl hMb hMS (hMv (0) _ h0)) ?_
 refine d_ready (i := 1) (rs := []) (by kernel_rfl) .nil (all_one ?_)
 refine o_gives rfl rfl rfl (gy (y_load1 ld_41 rfl m0 rfl)) rfl ?_
 intro _ _
 refine dV 8 rfl (y_fadd (a := q.x) (b := a0) rfl rfl (by omega) (RF_F (by omega)) (by omega)) ?_
 refine dV 9 rfl (y_fieldAddr fo_50_0 rfl) ?_
 refine d_ready (i := 10) (rs := []) (by kernel_rfl) .nil (all_one ?_)
 refine o_does rfl rfl rfl (g_store1 (cs' := [_, _]) sz_41 rfl rfl rfl rfl rfl rfl .here) ?_
 intro _ _
 refine d_end (by kernel_rfl) .nil ?_
 refine qR ?_
 refine lV (y_loadN (vs := [_, _]) ld_50 rfl m0 rfl rfl) ?_
 refine l_gives rfl rfl (g_alloc ze_50) rfl ?_
 intro b6 hb6
 refine l_does rfl rfl (g_storeN (vs := [_, _]) (cs' := [_, _]) sz_50 rfl rfl rfl rfl rfl rfl rfl .here) ?_
 intro _ _
 refine nQ ?_
 refine c_seq ?_
 refine c_draw [] mixed rfl ?_
 refine dM 0 rfl rfl ?_
 refine dN 1 rfl rfl ?_
 refine dV 2 rfl (y_fieldAddr fo_95_4 rfl) ?_
 refine dV 3 rfl (y_fieldAddr fo_91_0 rfl) ?_
 refine dV 4 rfl (y_indexArr (j := 1) ar_89 rfl rfl (blt513 (by omega))) ?_
 refine dV 5 rfl (y_oldLoad1 ld_41 rfl hMb hMS (hMv (1) _ h1)) ?_
 refine dM 6 rfl rfl ?_
 refine dN 7 rfl rfl ?_
 refine dV 8 rfl (y_fieldAddr fo_95_4 rfl) ?_
 refine dV 9 rfl (y_fieldAddr fo_91_0 rfl) ?_
 refine dV 10 rfl (y_indexArr (j := 2) ar_89 rfl rfl (blt513 (by omega))) ?_
 refine dV 11 rfl (y_oldLoad1 ld_41 rfl hMb hMS (hMv (2) _ h2)) ?_
 refine d_ready (i := 12) (rs := []) (by kernel_rfl) .nil (all_one ?_)
 refine o_call rfl (no_guard rfl) ok_148 rfl rfl (out_one [] (b := (b6, [] ++ (.float .f64 (F (q.x + a0)) :: .float .f64 (F q.y) :: []), 50)) (fun w9 ha_ hb_ => f148_any w9 b6 [] [] 50 (q.x + a0) q.y a1 a2 (F a1) (F a2) (by omega) (by omega) (RF_F (by omega)) (RF_F (by omega)) (by omega) (by omega) hb_)) ?_
 intro _ _
 refine d_end (by kernel_rfl) .nil ?_
 refine qR ?_
 refine lV (y_loadN (vs := [_, _]) ld_50 rfl m0 rfl rfl) ?_
 refine l_gives rfl rfl (g_alloc ze_50) rfl ?_
 intro b7 hb7
 refine l_does rfl rfl (g_storeN (vs := [_, _]) (cs' := [_, _]) sz_50 rfl rfl rfl rfl rfl rfl rfl .here) ?_
 intro _ _
 refine nQ ?_
 refine c_seq ?_
 refine c_draw [] mixed rfl ?_
 refine dV 0 rfl (y_fieldAddr fo_50_0 rfl) ?_
 refine dM 2 rfl rfl ?_
 refine dN 3 rfl rfl ?_
 refine dV 4 rfl (y_fieldAddr fo_95_4 rfl) ?_
 refine dV 5 rfl (y_fieldAddr fo_91_0 rfl) ?_
 refine dV 6 rfl (y_indexArr (j := 3) ar_89 rfl rfl (blt513 (by omega))) ?_
 refine dV 7 rfl (y_oldLoad1 ld_41 rfl hMb hMS (hMv (3) _ h3)) ?_
 refine d_ready (i := 1) (rs := []) (by kernel_rfl) .nil (all_one ?_)
 refine o_gives rfl rfl rfl (gy (y_load1 ld_41 rfl m0 rfl)) rfl ?_
 intro _ _
 refine dV 8 rfl (y_fadd (a := ((q.x + a0) + a1)) (b := a3) rfl rfl (by omega) (RF_F (by omega)) (by omega)) ?_
 refine dV 9 rfl (y_fieldAddr fo_50_0 rfl) ?_
 refine d_ready (i := 10) (rs := []) (by kernel_rfl) .nil (all_one ?_)
 refine o_does rfl rfl rfl (g_store1 (cs' := [_, _]) sz_41 rfl rfl rfl rfl rfl rfl .here) ?_
 intro _ _
 refine d_end (by kernel_rfl) .nil ?_
 refine qR ?_
 refine lV (y_loadN (vs := [_, _]) ld_50 rfl m0 rfl rfl) ?_
 refine l_gives rfl rfl (g_alloc ze_50) rfl ?_
 intro b8 hb8
 refine l_does rfl rfl (g_storeN (vs := [_, _]) (cs' := [_, _]) sz_50 rfl rfl rfl rfl rfl rfl rfl .here) ?_
 intro _ _
 refine nQ ?_
 refine c_seq ?_
 refine c_draw [] mixed rfl ?_
 refine dV 0 rfl (y_fieldAddr fo_50_0 rfl) ?_
 refine dM 2 rfl rfl ?_
 refine dN 3 rfl rfl ?_
 refine dV 4 rfl (y_fieldAddr fo_95_4 rfl) ?_
 refine dV 5 rfl (y_fieldAddr fo_91_0 rfl) ?_
 refine dV 6 rfl (y_indexArr (j := 4) ar_89 rfl rfl (blt513 (by omega))) ?_
 refine dV 7 rfl (y_oldLoad1 ld_41 rfl hMb hMS (hMv (4) _ h4)) ?_
 refine d_ready (i := 1) (rs := []) (by kernel_rfl) .nil (all_one ?_)
 refine o_gives rfl rfl rfl (gy (y_load1 ld_41 rfl m0 rfl)) rfl ?_
 intro _ _
 refine dV 8 rfl (y_fadd (a := (((q.x + a0) + a1) + a3)) (b := a4) rfl rfl (by omega) (RF_F (by omega)) (by omega)) ?_
 refine dV 9 rfl (y_fieldAddr fo_50_0 rfl) ?_
 refine d_ready (i := 10) (rs := []) (by kernel_rfl) .nil (all_one ?_)
 refine o_does rfl rfl rfl (g_store1 (cs' := [_, _]) sz_41 rfl rfl rfl rfl rfl rfl .here) ?_
 intro _ _
 refine d_end (by kernel_rfl) .nil ?_
 refine qR ?_
 refine lV (y_loadN (vs := [_, _]) ld_50 rfl m0 rfl rfl) ?_
 refine l_gives rfl rfl (g_alloc ze_50) rfl ?_
 intro b9 hb9
 refine l_does rfl rfl (g_storeN (vs := [_, _]) (cs' := [_, _]) sz_50 rfl rfl rfl rfl rfl rfl rfl .here) ?_
 intro _ _
 refine nQ ?_
 refine c_seq ?_
 refine c_draw [] mixed rfl ?_
 refine dV 0 rfl (y_fieldAddr fo_50_0 rfl) ?_
 refine dM 2 rfl rfl ?_
 refine dN 3 rfl rfl ?_
 refine dV 4 rfl (y_fieldAddr fo_95_4 rfl) ?_
 refine dV 5 rfl (y_fieldAddr fo_91_0 rfl) ?_
 refine dV 6 rfl (y_indexArr (j := 5) ar_89 rfl rfl (blt513 (by omega))) ?_
 refine dV 7 rfl (y_oldLoad1 ld_41 rfl hMb hMS (hMv (5) _ h5)) ?_
 refine d_ready (i := 1) (rs := []) (by kernel_rfl) .nil (all_one ?_)
 refine o_gives rfl rfl rfl (gy (y_load1 ld_41 rfl m0 rfl)) rfl ?_
 intro _ _
 refine dV 8 rfl (y_fadd (a := ((((q.x + a0) + a1) + a3) + a4)) (b := a5) rfl rfl (by omega) (RF_F (by omega)) (by omega)) ?_
 refine dV 9 rfl (y_fieldAddr fo_50_0 rfl) ?_
 refine d_ready (i := 10) (rs := []) (by kernel_rfl) .nil (all_one ?_)
 refine o_does rfl rfl rfl (g_store1 (cs' := [_, _]) sz_41 rfl rfl rfl rfl rfl rfl .here) ?_
 intro _ _
 refine d_end (by kernel_rfl) .nil ?_
 refine qR ?_
 refine lV (y_fieldAddr fo_50_1 rfl) ?_
 refine lV (y_load1 ld_41 rfl m4 rfl) ?_
 refine lV (y_fieldAddr fo_50_1 rfl) ?_
 refine l_does rfl rfl (g_store1 (cs' := [_, _]) sz_41 rfl rfl rfl rfl rfl rfl .here) ?_
 intro _ _
 refine nR ?_
 refine lV (y_loadN (vs := [_, _]) ld_50 rfl m0 rfl rfl) ?_
 refine l_gives rfl rfl (g_alloc ze_50) rfl ?_
 intro b10 hb10
 refine l_does rfl rfl (g_storeN (vs := [_, _]) (cs' := [_, _]) sz_50 rfl rfl rfl rfl rfl rfl rfl .here) ?_
 intro _ _
 refine nQ ?_
 refine c_seq ?_
 refine c_draw [] mixed rfl ?_
 refine dV 0 rfl (y_fieldAddr fo_50_0 rfl) ?_
 refine dM 2 rfl rfl ?_
 refine dN 3 rfl rfl ?_
 refine dV 4 rfl (y_fieldAddr fo_95_4 rfl) ?_
 refine dV 5 rfl (y_fieldAddr fo_91_0 rfl) ?_
 refine dV 6 rfl (y_indexArr (j := 6) ar_89 rfl rfl (blt513 (by omega))) ?_
 refine dV 7 rfl (y_oldLoad1 ld_41 rfl hMb hMS (hMv (6) _ h6)) ?_
 refine d_ready (i := 1) (rs := []) (by kernel_rfl) .nil (all_one ?_)
 refine o_gives rfl rfl rfl (gy (y_load1 ld_41 rfl m0 rfl)) rfl ?_
 intro _ _
 refine dV 8 rfl (y_fadd (a := (((((q.x + a0) + a1) + a3) + a4) + a5)) (b := a6) rfl rfl (by omega) (RF_F (by omega)) (by omega)) ?_
 refine dV 9 rfl (y_fieldAddr fo_50_0 rfl) ?_
 refine d_ready (i := 10) (rs := []) (by kernel_rfl) .nil (all_one ?_)
 refine o_does rfl rfl rfl (g_store1 (cs' := [_, _]) sz_41 rfl rfl rfl rfl rfl rfl .here) ?_
 intro _ _
 refine d_end (by kernel_rfl) .nil ?_
 refine qR ?_
 refine lM rfl ?_
 refine lV (y_loadN (vs := [_, _]) ld_50 rfl m5 rfl rfl) ?_
 refine lV (y_loadN (vs := [_, _]) ld_50 rfl m4 rfl rfl) ?_
 refine lV (y_loadN (vs := [_, _]) ld_50 rfl m3 rfl rfl) ?_
 refine lV (y_loadN (vs := [_, _]) ld_50 rfl m2 rfl rfl) ?_
 refine lV (y_loadN (vs := [_, _]) ld_50 rfl m1 rfl rfl) ?_
 refine lV (y_loadN (vs := [_, _]) ld_50 rfl m0 rfl rfl) ?_
 refine l_call ok_152 rfl rfl (out_tail (A := [_, _, _, _, _, _]) (H1 := (HB bH so q.out.length q.bx v5 v6 v7 q.x q.y q.fx q.fy q.io v13 ((q.bx).isSome) wd) :: slH so (encG q.out) 77) (fun w9 ha_ hb_ => f152_any w9 bH (M + 20 * 2147483648) q so v5 v6 v7 v13 wd (Nat.lt_of_le_of_lt (show (M + 20 * 2147483648) ≤ M + 60 * 2147483648 by omega) (by omega)) (hB0.mono (by omega)) (q.x + a0) q.y ((q.x + a0) + a1) (q.y + a2) (((q.x + a0) + a1) + a3) (q.y + a2) ((((q.x + a0) + a1) + a3) + a4) (q.y + a2) (((((q.x + a0) + a1) + a3) + a4) + a5) q.y ((((((q.x + a0) + a1) + a3) + a4) + a5) + a6) q.y (by omega) (by omega) (by omega) (by omega) (by omega) (by omega) (by omega) (by omega) (by omega) (by omega) (by omega) (by omega) hok (by omega) hb_)) ?_
 intro so_1 hok_1
 refine nR ?_
 refine lA rfl ?_
 refine nQ ?_
 refine c_ret ?_
 have hE2 : (curveA (curveA q (q.x + a0) q.y ((q.x + a0) + a1) (q.y + a2) (((q.x + a0) + a1) + a3) (q.y + a2)) ((((q.x + a0) + a1) + a3) + a4) (q.y + a2) (((((q.x + a0) + a1) + a3) + a4) + a5) q.y ((((((q.x + a0) + a1) + a3) + a4) + a5) + a6) q.y) = curveQ (curveQ q a0 0 a1 a2 a3 0) a4 0 a5 (-a2) a6 0 := curveQ_of (curveQ_of rfl (by omega) (by omega) (by omega) (by omega) (by omega) (by omega)) (by simp only [curveQ] <;> omega) (by simp only [curveQ] <;> omega) (by simp only [curveQ] <;> omega) (by simp only [curveQ] <;> omega) (by simp only [curveQ] <;> omega) (by simp only [curveQ] <;> omega)
 rw [← hE2]
 exact body_ret (rs := [.tmp 4]) rfl (vs := [.nilIface]) ⟨rfl, trivial⟩ (out_end so_1 hok_1 rfl (.cons (.there (.there (.there (.there (.there (.there .here)))))) (.skip (.skip (.skip (.skip (.skip (.skip .refl)))))))) _ (.inr rfl)
set_option maxHeartbeats 8000000 in
theorem f138_any (w : World) (bH bM M : Nat) (q : QSt) (so : Sv) (v5 v6 v7 v13 : Value) (wd : List Value) (a0 a1 a2 a3 a4 a5 a6 a7 a8 a9 a10 a11 a12 : Int) (hq : ∀ q ∈ [a0, a1, a2, a3, a4, a5, a6, a7, a8, a9, a10, a11, a12], Opd q) (hB0 : q.Bd M) (hM : M + 120 * 2147483648 < 2 ^ 53) (hok : slOk so q.out.length 7 (encG q.out)) (hlen : q.out.length ≤ 70000) (hR : RdM w (((HB bH so q.out.length q.bx v5 v6 v7 q.x q.y q.fx q.fy q.io v13 ((q.bx).isSome) wd) :: slH so (encG q.out) 77).map (·.1)) bM [a0, a1, a2, a3, a4, a5, a6, a7, a8, a9, a10, a11, a12]) (hw : Hp w (((HB bH so q.out.length q.bx v5 v6 v7 q.x q.y q.fx q.fy q.io v13 ((q.bx).isSome) wd) :: slH so (encG q.out) 77).map (·.1)) ((HB bH so q.out.length q.bx v5 v6 v7 q.x q.y q.fx q.fy q.io v13 ((q.bx).isSome) wd) :: slH so (encG q.out) 77) w) : Calls Tryz.prog 138 [.pointer (some ⟨bH, 0, none⟩), .pointer (some ⟨bM, 0, none⟩)].toArray w (Out w (((HB bH so q.out.length q.bx v5 v6 v7 q.x q.y q.fx q.fy q.io v13 ((q.bx).isSome) wd) :: slH so (encG q.out) 77).map (·.1)) (fun z : Sv => slOk z (curveQ (curveQ q a0 a1 a2 a3 a4 a5) a6 a7 a8 a9 a10 a11).out.length 7 (encG (curveQ (curveQ q a0 a1 a2 a3 a4 a5) a6 a7 a8 a9 a10 a11).out)) (fun z => .nilIface) (fun z => (HB bH z (curveQ (curveQ q a0 a1 a2 a3 a4 a5) a6 a7 a8 a9 a10 a11).out.length ((curveQ (curveQ q a0 a1 a2 a3 a4 a5) a6 a7 a8 a9 a10 a11).bx) v5 v6 v7 ((curveQ (curveQ q a0 a1 a2 a3 a4 a5) a6 a7 a8 a9 a10 a11).x) ((curveQ (curveQ q a0 a1 a2 a3 a4 a5) a6 a7 a8 a9 a10 a11).y) ((curveQ (curveQ q a0 a1 a2 a3 a4 a5) a6 a7 a8 a9 a10 a11).fx) ((curveQ (curveQ q a0 a1 a2 a3 a4 a5) a6 a7 a8 a9 a10 a11).fy) ((curveQ (curveQ q a0 a1 a2 a3 a4 a5) a6 a7 a8 a9 a10 a11).io) v13 (((curveQ (curveQ q a0 a1 a2 a3 a4 a5) a6 a7 a8 a9 a10 a11).bx).isSome) wd) :: slH z (encG (curveQ (curveQ q a0 a1 a2 a3 a4 a5) a6 a7 a8 a9 a10 a11).out) 77)) := by
 obtain ⟨hMb, hMS, hMt, hMv⟩ := hR
 have hqx0 := nb hB0.x
 have hqy0 := nb hB0.y
 have h0 : [a0, a1, a2, a3, a4, a5, a6, a7, a8, a9, a10, a11, a12][0]? = some a0 := rfl
 have n0 := at_opd hq h0
 have h1 : [a0, a1, a2, a3, a4, a5, a6, a7, a8, a9, a10, a11, a12][1]? = some a1 := rfl
 have n1 := at_opd hq h1
 have h2 : [a0, a1, a2, a3, a4, a5, a6, a7, a8, a9, a10, a11, a12][2]? = some a2 := rfl
 have n2 := at_opd hq h2
 have h3 : [a0, a1, a2, a3, a4, a5, a6, a7, a8, a9, a10, a11, a12][3]? = some a3 := rfl
 have n3 := at_opd hq h3
 have h4 : [a0, a1, a2, a3, a4, a5, a6, a7, a8, a9, a10, a11, a12][4]? = some a4 := rfl
 have n4 := at_opd hq h4
 have h5 : [a0, a1, a2, a3, a4, a5, a6, a7, a8, a9, a10, a11, a12][5]? = some a5 := rfl
 have n5 := at_opd hq h5
 have h6 : [a0, a1, a2, a3, a4, a5, a6, a7, a8, a9, a10, a11, a12][6]? = some a6 := rfl
 have n6 := at_opd hq h6
 have h7 : [a0, a1, a2, a3, a4, a5, a6, a7, a8, a9, a10, a11, a12][7]? = some a7 := rfl
 have n7 := at_opd hq h7
 have h8 : [a0, a1, a2, a3, a4, a5, a6, a7, a8, a9, a10, a11, a12][8]? = some a8 := rfl
 have n8 := at_opd hq h8
 have h9 : [a0, a1, a2, a3, a4, a5, a6, a7, a8, a9, a10, a11, a12][9]? = some a9 := rfl
 have n9 := at_opd hq h9
 have h10 : [a0, a1, a2, a3, a4, a5, a6, a7, a8, a9, a10, a11, a12][10]? = some a10 := rfl
 have n10 := at_opd hq h10
 have h11 : [a0, a1, a2, a3, a4, a5, a6, a7, a8, a9, a10, a11, a12][11]? = some a11 := rfl
 have n11 := at_opd hq h11
 have h12 : [a0, a1, a2, a3, a4, a5, a6, a7, a8, a9, a10, a11, a12][12]? = some a12 := rfl
 have n12 := at_opd hq h12
 refine enter (n := 113) Tryz.func138 rfl rfl rfl hw ?_
 refine cR ?_
 refine lA rfl ?_
 refine nQ ?_
 refine c_seq ?_
 refine cR ?_
 refine lM rfl ?_
 refine lN rfl ?_
 refine lV (y_fieldAddr fo_95_4 rfl) ?_
 refine lV (y_fieldAddr fo_91_1 rfl) ?_
 refine lV (y_oldLoad1 ld_21 rfl hMb hMS hMt) ?_
 refine lV (y_bin rfl rfl rfl (by rfl)) ?_
 refine nQ ?_
 refine c_false rfl rfl ?_
 refine kR ?_
 refine lM rfl ?_
 refine lN rfl ?_
 refine lV (y_fieldAddr fo_97_5 rfl) ?_
 refine lV (y_loadN (vs := [_, _]) ld_50 rfl m0 rfl rfl) ?_
 refine l_gives rfl rfl (g_alloc ze_50) rfl ?_
 intro b5 hb5
 refine l_does rfl rfl (g_storeN (vs := [_, _]) (cs' := [_, _]) sz_50 rfl rfl rfl rfl rfl rfl rfl .here) ?_
 intro _ _
 refine nQ ?_
 refine c_seq ?_
 refine c_draw [] mixed rfl ?_
 refine dM 0 rfl rfl ?_
 refine dN 1 rfl rfl ?_
 refine dV 2 rfl (y_fieldAddr fo_95_4 rfl) ?_
 refine dV 3 rfl (y_fieldAddr fo_91_0 rfl) ?_
 refine dV 4 rfl (y_indexArr (j := 0) ar_89 rfl rfl (blt513 (by omega))) ?_
 refine dV 5 rfl (y_oldLoad1 ld_41 rfl hMb hMS (hMv (0) _ h0)) ?_
 refine dM 6 rfl rfl ?_
 refine dN 7 rfl rfl ?_
 refine dV 8 rfl (y_fieldAddr fo_95_4 rfl) ?_
 refine dV 9 rfl (y_fieldAddr fo_91_0 rfl) ?_
 refine dV 10 rfl (y_indexArr (j := 1) ar_89 rfl rfl (blt513 (by omega))) ?_
 refine dV 11 rfl (y_oldLoad1 ld_41 rfl hMb hMS (hMv (1) _ h1)) ?_
 refine d_ready (i := 12) (rs := []) (by kernel_rfl) .nil (all_one ?_)
 refine o_call rfl (no_guard rfl) ok_148 rfl rfl (out_one [] (b := (b5, [] ++ (.float .f64 (F q.x) :: .float .f64 (F q.y) :: []), 50)) (fun w9 ha_ hb_ => f148_any w9 b5 [] [] 50 q.x q.y a0 a1 (F a0) (F a1) (by omega) (by omega) (RF_F (by omega)) (RF_F (by omega)) (by omega) (by omega) hb_)) ?_
 intro _ _
 refine d_end (by kernel_rfl) .nil ?_
 refine qR ?_
 refine lV (y_loadN (vs := [_, _]) ld_50 rfl m0 rfl rfl) ?_
 refine l_gives rfl rfl (g_alloc ze_50) rfl ?_
 intro b6 hb6
 refine l_does rfl rfl (g_storeN (vs := [_, _]) (cs' := [_, _]) sz_50 rfl rfl rfl rfl rfl rfl rfl .here) ?_
 intro _ _
 refine nQ ?_
 refine c_seq ?_
 refine c_draw [] mixed rfl ?_
 refine dM 0 rfl rfl ?_
 refine dN 1 rfl rfl ?_
 refine dV 2 rfl (y_fieldAddr fo_95_4 rfl) ?_
 refine dV 3 rfl (y_fieldAddr fo_91_0 rfl) ?_
 refine dV 4 rfl (y_indexArr (j := 2) ar_89 rfl rfl (blt513 (by omega))) ?_
 refine dV 5 rfl (y_oldLoad1 ld_41 rfl hMb hMS (hMv (2) _ h2)) ?_
 refine dM 6 rfl rfl ?_
 refine dN 7 rfl rfl ?_
 refine dV 8 rfl (y_fieldAddr fo_95_4 rfl) ?_
 refine dV 9 rfl (y_fieldAddr fo_91_0 rfl) ?_
 refine dV 10 rfl (y_indexArr (j := 3) ar_89 rfl rfl (blt513 (by omega))) ?_
 refine dV 11 rfl (y_oldLoad1 ld_41 rfl hMb hMS (hMv (3) _ h3)) ?_
 refine d_ready (i := 12) (rs := []) (by kernel_rfl) .nil (all_one ?_)
 refine o_call rfl (no_guard rfl) ok_148 rfl rfl (out_one [] (b := (b6, [] ++ (.float .f64 (F (q.x + a0)) :: .float .f64 (F (q.y + a1)) :: []), 50)) (fun w9 ha_ hb_ => f148_any w9 b6 [] [] 50 (q.x + a0) (q.y + a1) a2 a3 (F a2) (F a3) (by omega) (by omega) (RF_F (by omega)) (RF_F (by omega)) (by omega) (by omega) hb_)) ?_
 intro _ _
 refine d_end (by kernel_rfl) .nil ?_
 refine qR ?_
 refine lV (y_loadN (vs := [_, _]) ld_50 rfl m0 rfl rfl) ?_
 refine l_gives rfl rfl (g_alloc ze_50) rfl ?_
 intro b7 hb7
 refine l_does rfl rfl (g_storeN (vs := [_, _]) (cs' := [_, _]) sz_50 rfl rfl rfl rfl rfl rfl rfl .here) ?_
 intro _ _
 refine nQ ?_
 refine c_seq ?_
 refine c_draw [] mixed rfl ?_
 refine dM 0 rfl rfl ?_
 refine dN 1 rfl rfl ?_
 refine dV 2 rfl (y_fieldAddr fo_95_4 rfl) ?_
 refine dV 3 rfl (y_fieldAddr fo_91_0 rfl) ?_
 refine dV 4 rfl (y_indexArr (j := 4) ar_89 rfl rfl (blt513 (by omega))) ?_
 refine dV 5 rfl (y_oldLoad1 ld_41 rfl hMb hMS (hMv (4) _ h4)) ?_
 refine dM 6 rfl rfl ?_
 refine dN 7 rfl rfl ?_
 refine dV 8 rfl (y_fieldAddr fo_95_4 rfl) ?_
 refine dV 9 rfl (y_fieldAddr fo_91_0 rfl) ?_
 refine dV 10 rfl (y_indexArr (j := 5) ar_89 rfl rfl (blt513 (by omega))) ?_
 refine dV 11 rfl (y_oldLoad1 ld_41 rfl hMb hMS (hMv (5) _ h5)) ?_
 refine d_ready (i := 12) (rs := []) (by kernel_rfl) .nil (all_one ?_)
 refine o_call rfl (no_guard rfl) ok_148 rfl rfl (out_one [] (b := (b7, [] ++ (.float .f64 (F ((q.x + a0) + a2)) :: .float .f64 (F ((q.y + a1) + a3)) :: []), 50)) (fun w9 ha_ hb_ => f148_any w9 b7 [] [] 50 ((q.x + a0) + a2) ((q.y + a1) + a3) a4 a5 (F a4) (F a5) (by omega) (by omega) (RF_F (by omega)) (RF_F (by omega)) (by omega) (by omega) hb_)) ?_
 intro _ _
 refine d_end (by kernel_rfl) .nil ?_
 refine qR ?_
 refine lV (y_loadN (vs := [_, _]) ld_50 rfl m0 rfl rfl) ?_
 refine l_gives rfl rfl (g_alloc ze_50) rfl ?_
 intro b8 hb8
 refine l_does rfl rfl (g_storeN (vs := [_, _]) (cs' := [_, _]) sz_50 rfl rfl rfl rfl rfl rfl rfl .here) ?_
 intro _ _
 refine nQ ?_
 refine c_seq ?_
 refine c_draw [] mixed rfl ?_
 refine dM 0 rfl rfl ?_
 refine dN 1 rfl rfl ?_
 refine dV 2 rfl (y_fieldAddr fo_95_4 rfl) ?_
 refine dV 3 rfl (y_fieldAddr fo_91_0 rfl) ?_
 refine dV 4 rfl (y_indexArr (j := 6) ar_89 rfl rfl (blt513 (by omega))) ?_
 refine dV 5 rfl (y_oldLoad1 ld_41 rfl hMb hMS (hMv (6) _ h6)) ?_
 refine dM 6 rfl rfl ?_
 refine dN 7 rfl rfl ?_
 refine dV 8 rfl (y_fieldAddr fo_95_4 rfl) ?_
 refine dV 9 rfl (y_fieldAddr fo_91_0 rfl) ?_
 refine dV 10 rfl (y_indexArr (j := 7) ar_89 rfl rfl (blt513 (by omega))) ?_
 refine dV 11 rfl (y_oldLoad1 ld_41 rfl hMb hMS (hMv (7) _ h7)) ?_
 refine d_ready (i := 12) (rs := []) (by kernel_rfl) .nil (all_one ?_)
 refine o_call rfl (no_guard rfl) ok_148 rfl rfl (out_one [] (b := (b8, [] ++ (.float .f64 (F (((q.x + a0) + a2) + a4)) :: .float .f64 (F (((q.y + a1) + a3) + a5)) :: []), 50)) (fun w9 ha_ hb_ => f148_any w9 b8 [] [] 50 (((q.x + a0) + a2) + a4) (((q.y + a1) + a3) + a5) a6 a7 (F a6) (F a7) (by omega) (by omega) (RF_F (by omega)) (RF_F (by omega)) (by omega) (by omega) hb_)) ?_
 intro _ _
 refine d_end (by kernel_rfl) .nil ?_
 refine qR ?_
 refine lV (y_loadN (vs := [_, _]) ld_50 rfl m0 rfl rfl) ?_
 refine l_gives rfl rfl (g_alloc ze_50) rfl ?_
 intro b9 hb9
 refine l_does rfl rfl (g_storeN (vs := [_, _]) (cs' := [_, _]) sz_50 rfl rfl rfl rfl rfl rfl rfl .here) ?_
 intro _ _
 refine nQ ?_
 refine c_seq ?_
 refine c_draw [] mixed rfl ?_
 refine dM 0 rfl rfl ?_
 refine dN 1 rfl rfl ?_
 refine dV 2 rfl (y_fieldAddr fo_95_4 rfl) ?_
 refine dV 3 rfl (y_fieldAddr fo_91_0 rfl) ?_
 refine dV 4 rfl (y_indexArr (j := 8) ar_89 rfl rfl (blt513 (by omega))) ?_
 refine dV 5 rfl (y_oldLoad1 ld_41 rfl hMb hMS (hMv (8) _ h8)) ?_
 refine dM 6 rfl rfl ?_
 refine dN 7 rfl rfl ?_
 refine dV 8 rfl (y_fieldAddr fo_95_4 rfl) ?_
 refine dV 9 rfl (y_fieldAddr fo_91_0 rfl) ?_
 refine dV 10 rfl (y_indexArr (j := 9) ar_89 rfl rfl (blt513 (by omega))) ?_
 refine dV 11 rfl (y_oldLoad1 ld_41 rfl hMb hMS (hMv (9) _ h9)) ?_
 refine d_ready (i := 12) (rs := []) (by kernel_rfl) .nil (all_one ?_)
 refine o_call rfl (no_guard rfl) ok_148 rfl rfl (out_one [] (b := (b9, [] ++ (.float .f64 (F ((((q.x + a0) + a2) + a4) + a6)) :: .float .f64 (F ((((q.y + a1) + a3) + a5) + a7)) :: []), 50)) (fun w9 ha_ hb_ => f148_any w9 b9 [] [] 50 ((((q.x + a0) + a2) + a4) + a6) ((((q.y + a1) + a3) + a5) + a7) a8 a9 (F a8) (F a9) (by omega) (by omega) (RF_F (by omega)) (RF_F (by omega)) (by omega) (by omega) hb_)) ?_
 intro _ _
 refine d_end (by kernel_rfl) .nil ?_
 refine qR ?_
 refine lV (y_loadN (vs := [_, _]) ld_50 rfl m0 rfl rfl) ?_
 refine l_gives rfl rfl (g_alloc ze_50) rfl ?_
 intro b10 hb10
 refine l_does rfl rfl (g_storeN (vs := [_, _]) (cs' := [_, _]) sz_50 rfl rfl rfl rfl rfl rfl rfl .here) ?_
 intro _ _
 refine nQ ?_
 refine c_seq ?_
 refine c_draw [] mixed rfl ?_
 refine dM 0 rfl rfl ?_
 refine dN 1 rfl rfl ?_
 refine dV 2 rfl (y_fieldAddr fo_95_4 rfl) ?_
 refine dV 3 rfl (y_fieldAddr fo_91_0 rfl) ?_
 refine dV 4 rfl (y_indexArr (j := 10) ar_89 rfl rfl (blt513 (by omega))) ?_
 refine dV 5 rfl (y_oldLoad1 ld_41 rfl hMb hMS (hMv (10) _ h10)) ?_
 refine dM 6 rfl rfl ?_
 refine dN 7 rfl rfl ?_
 refine dV 8 rfl (y_fieldAddr fo_95_4 rfl) ?_
 refine dV 9 rfl (y_fieldAddr fo_91_0 rfl) ?_
 refine dV 10 rfl (y_indexArr (j := 11) ar_89 rfl rfl (blt513 (by omega))) ?_
 refine dV 11 rfl (y_oldLoad1 ld_41 rfl hMb hMS (hMv (11) _ h11)) ?_
 refine d_ready (i := 12) (rs := []) (by kernel_rfl) .nil (all_one ?_)
 refine o_call rfl (no_guard rfl) ok_148 rfl rfl (out_one [] (b := (b10, [] ++ (.float .f64 (F (((((q.x + a0) + a2) + a4) + a6) + a8)) :: .float .f64 (F (((((q.y + a1) + a3) + a5) + a7) + a9)) :: []), 50)) (fun w9 ha_ hb_ => f148_any w9 b10 [] [] 50 (((((q.x + a0) + a2) + a4) + a6) + a8) (((((q.y + a1) + a3) + a5) + a7) + a9) a10 a11 (F a10) (F a11) (by omega) (by omega) (RF_F (by omega)) (RF_F (by omega)) (by omega) (by omega) hb_)) ?_
 intro _ _
 refine d_end (by kernel_rfl) .nil ?_
 refine qR ?_
 refine lM rfl ?_
 refine lV (y_loadN (vs := [_, _]) ld_50 rfl m5 rfl rfl) ?_
 refine lV (y_loadN (vs := [_, _]) ld_50 rfl m4 rfl rfl) ?_
 refine lV (y_loadN (vs := [_, _]) ld_50 rfl m3 rfl rfl) ?_
 refine lV (y_loadN (vs := [_, _]) ld_50 rfl m2 rfl rfl) ?_
 refine lV (y_loadN (vs := [_, _]) ld_50 rfl m1 rfl rfl) ?_
 refine lV (y_loadN (vs := [_, _]) ld_50 rfl m0 rfl rfl) ?_
 refine l_call ok_152 rfl rfl (out_tail (A := [_, _, _, _, _, _]) (H1 := (HB bH so q.out.length q.bx v5 v6 v7 q.x q.y q.fx q.fy q.io v13 ((q.bx).isSome) wd) :: slH so (encG q.out) 77) (fun w9 ha_ hb_ => f152_any w9 bH (M + 20 * 2147483648) q so v5 v6 v7 v13 wd (Nat.lt_of_le_of_lt (show (M + 20 * 2147483648) ≤ M + 60 * 2147483648 by omega) (by omega)) (hB0.mono (by omega)) (q.x + a0) (q.y + a1) ((q.x + a0) + a2) ((q.y + a1) + a3) (((q.x + a0) + a2) + a4) (((q.y + a1) + a3) + a5) ((((q.x + a0) + a2) + a4) + a6) ((((q.y + a1) + a3) + a5) + a7) (((((q.x + a0) + a2) + a4) + a6) + a8) (((((q.y + a1) + a3) + a5) + a7) + a9) ((((((q.x + a0) + a2) + a4) + a6) + a8) + a10) ((((((q.y + a1) + a3) + a5) + a7) + a9) + a11) (by omega) (by omega) (by omega) (by omega) (by omega) (by omega) (by omega) (by omega) (by omega) (by omega) (by omega) (by omega) hok (by omega) hb_)) ?_
 intro so_1 hok_1
 refine nR ?_
 refine lA rfl ?_
 refine nQ ?_
 refine c_ret ?_
 have hE2 : (curveA (curveA q (q.x + a0) (q.y + a1) ((q.x + a0) + a2) ((q.y + a1) + a3) (((q.x + a0) + a2) + a4) (((q.y + a1) + a3) + a5)) ((((q.x + a0) + a2) + a4) + a6) ((((q.y + a1) + a3) + a5) + a7) (((((q.x + a0) + a2) + a4) + a6) + a8) (((((q.y + a1) + a3) + a5) + a7) + a9) ((((((q.x + a0) + a2) + a4) + a6) + a8) + a10) ((((((q.y + a1) + a3) + a5) + a7) + a9) + a11)) = curveQ (curveQ q a0 a1 a2 a3 a4 a5) a6 a7 a8 a9 a10 a11 := curveQ_of (curveQ_of rfl (by omega) (by omega) (by omega) (by omega) (by omega) (by omega)) (by simp only [curveQ] <;> omega) (by simp only [curveQ] <;> omega) (by simp only [curveQ] <;> omega) (by simp only [curveQ] <;> omega) (by simp only [curveQ] <;> omega) (by simp only [curveQ] <;> omega)
 rw [← hE2]
 exact body_ret (rs := [.tmp 4]) rfl (vs := [.nilIface]) ⟨rfl, trivial⟩ (out_end so_1 hok_1 rfl (.cons (.there (.there (.there (.there (.there (.there .here)))))) (.skip (.skip (.skip (.skip (.skip (.skip .refl)))))))) _ (.inr rfl)
set_option maxHeartbeats 8000000 in
theorem f139_any (w : World) (bH bM M : Nat) (q : QSt) (so : Sv) (v5 v6 v7 v13 : Value) (wd : List Value) (a0 a1 a2 a3 a4 a5 a6 a7 a8 : Int) (hq : ∀ q ∈ [a0, a1, a2, a3, a4, a5, a6, a7, a8], Opd q) (hB0 : q.Bd M) (hM : M + 120 * 2147483648 < 2 ^ 53) (hok : slOk so q.out.length 7 (encG q.out)) (hlen : q.out.length ≤ 70000) (hR : RdM w (((HB bH so q.out.length q.bx v5 v6 v7 q.x q.y q.fx q.fy q.io v13 ((q.bx).isSome) wd) :: slH so (encG q.out) 77).map (·.1)) bM [a0, a1, a2, a3, a4, a5, a6, a7, a8]) (hw : Hp w (((HB bH so q.out.length q.bx v5 v6 v7 q.x q.y q.fx q.fy q.io v13 ((q.bx).isSome) wd) :: slH so (encG q.out) 77).map (·.1)) ((HB bH so q.out.length q.bx v5 v6 v7 q.x q.y q.fx q.fy q.io v13 ((q.bx).isSome) wd) :: slH so (encG q.out) 77) w) : Calls Tryz.prog 139 [.pointer (some ⟨bH, 0, none⟩), .pointer (some ⟨bM, 0, none⟩)].toArray w (Out w (((HB bH so q.out.length q.bx v5 v6 v7 q.x q.y q.fx q.fy q.io v13 ((q.bx).isSome) wd) :: slH so (encG q.out) 77).map (·.1)) (fun z : Sv => slOk z (curveQ (curveQ q a0 a1 a2 a3 a4 0) a5 0 a6 a7 a8 (-(a1 + a3 + a7))).out.length 7 (encG (curveQ (curveQ q a0 a1 a2 a3 a4 0) a5 0 a6 a7 a8 (-(a1 + a3 + a7))).out)) (fun z => .nilIface) (fun z => (HB bH z (curveQ (curveQ q a0 a1 a2 a3 a4 0) a5 0 a6 a7 a8 (-(a1 + a3 + a7))).out.length ((curveQ (curveQ q a0 a1 a2 a3 a4 0) a5 0 a6 a7 a8 (-(a1 + a3 + a7))).bx) v5 v6 v7 ((curveQ (curveQ q a0 a1 a2 a3 a4 0) a5 0 a6 a7 a8 (-(a1 + a3 + a7))).x) ((curveQ (curveQ q a0 a1 a2 a3 a4 0) a5 0 a6 a7 a8 (-(a1 + a3 + a7))).y) ((curveQ (curveQ q a0 a1 a2 a3 a4 0) a5 0 a6 a7 a8 (-(a1 + a3 + a7))).fx) ((curveQ (curveQ q a0 a1 a2 a3 a4 0) a5 0 a6 a7 a8 (-(a1 + a3 + a7))).fy) ((curveQ (curveQ q a0 a1 a2 a3 a4 0) a5 0 a6 a7 a8 (-(a1 + a3 + a7))).io) v13 (((curveQ (curveQ q a0 a1 a2 a3 a4 0) a5 0 a6 a7 a8 (-(a1 + a3 + a7))).bx).isSome) wd) :: slH z (encG (curveQ (curveQ q a0 a1 a2 a3 a4 0) a5 0 a6 a7 a8 (-(a1 + a3 + a7))).out) 77)) := by
 obtain ⟨hMb, hMS, hMt, hMv⟩ := hR
 have hqx0 := nb hB0.x
 have hqy0 := nb hB0.y
 have h0 : [a0, a1, a2, a3, a4, a5, a6, a7, a8][0]? = some a0 := rfl
 have n0 := at_opd hq h0
 have h1 : [a0, a1, a2, a3, a4, a5, a6, a7, a8][1]? = some a1 := rfl
 have n1 := at_opd hq h1
 have h2 : [a0, a1, a2, a3, a4, a5, a6, a7, a8][2]? = some a2 := rfl
 have n2 := at_opd hq h2
 have h3 : [a0, a1, a2, a3, a4, a5, a6, a7, a8][3]? = some a3 := rfl
 have n3 := at_opd hq h3
 have h4 : [a0, a1, a2, a3, a4, a5, a6, a7, a8][4]? = some a4 := rfl
 have n4 := at_opd hq h4
 have h5 : [a0, a1, a2, a3, a4, a5, a6, a7, a8][5]? = some a5 := rfl
 have n5 := at_opd hq h5
 have h6 : [a0, a1, a2, a3, a4, a5, a6, a7, a8][6]? = some a6 := rfl
 have n6 := at_opd hq h6
 have h7 : [a0, a1, a2, a3, a4, a5, a6, a7, a8][7]? = some a7 := rfl
 have n7 := at_opd hq h7
 have h8 : [a0, a1, a2, a3, a4, a5, a6, a7, a8][8]? = some a8 := rfl
 have n8 := at_opd hq h8
 refine enter (n := 110) Tryz.func139 rfl rfl rfl hw ?_
 refine cR ?_
 refine lA rfl ?_
 refine nQ ?_
 refine c_seq ?_
 refine cR ?_
 refine lM rfl ?_
 refine lN rfl ?_
 refine lV (y_fieldAddr fo_95_4 rfl) ?_
 refine lV (y_fieldAddr fo_91_1 rfl) ?_
 refine lV (y_oldLoad1 ld_21 rfl hMb hMS hMt) ?_
 refine lV (y_bin rfl rfl rfl (by rfl)) ?_
 refine nQ ?_
 refine c_false rfl rfl ?_
 refine kR ?_
 refine lM rfl ?_
 refine lN rfl ?_
 refine lV (y_fieldAddr fo_97_5 rfl) ?_
 refine lV (y_loadN (vs := [_, _]) ld_50 rfl m0 rfl rfl) ?_
 refine l_gives rfl rfl (g_alloc ze_50) rfl ?_
 intro b5 hb5
 refine l_does rfl rfl (g_storeN (vs := [_, _]) (cs' := [_, _]) sz_50 rfl rfl rfl rfl rfl rfl rfl .here) ?_
 intro _ _
 refine nQ ?_
 refine c_seq ?_
 refine c_draw [] mixed rfl ?_
 refine dM 0 rfl rfl ?_
 refine dN 1 rfl rfl ?_
 refine dV 2 rfl (y_fieldAddr fo_95_4 rfl) ?_
 refine dV 3 rfl (y_fieldAddr fo_91_0 rfl) ?_
 refine dV 4 rfl (y_indexArr (j := 0) ar_89 rfl rfl (blt513 (by omega))) ?_
 refine dV 5 rfl (y_oldLoad1 ld_41 rfl hMb hMS (hMv (0) _ h0)) ?_
 refine dM 6 rfl rfl ?_
 refine dN 7 rfl rfl ?_
 refine dV 8 rfl (y_fieldAddr fo_95_4 rfl) ?_
 refine dV 9 rfl (y_fieldAddr fo_91_0 rfl) ?_
 refine dV 10 rfl (y_indexArr (j := 1) ar_89 rfl rfl (blt513 (by omega))) ?_
 refine dV 11 rfl (y_oldLoad1 ld_41 rfl hMb hMS (hMv (1) _ h1)) ?_
 refine d_ready (i := 12) (rs := []) (by kernel_rfl) .nil (all_one ?_)
 refine o_call rfl (no_guard rfl) ok_148 rfl rfl (out_one [] (b := (b5, [] ++ (.float .f64 (F q.x) :: .float .f64 (F q.y) :: []), 50)) (fun w9 ha_ hb_ => f148_any w9 b5 [] [] 50 q.x q.y a0 a1 (F a0) (F a1) (by omega) (by omega) (RF_F (by omega)) (RF_F (by omega)) (by omega) (by omega) hb_)) ?_
 intro _ _
 refine d_end (by kernel_rfl) .nil ?_
 refine qR ?_
 refine lV (y_loadN (vs := [_, _]) ld_50 rfl m0 rfl rfl) ?_
 refine l_gives rfl rfl (g_alloc ze_50) rfl ?_
 intro b6 hb6
 refine l_does rfl rfl (g_storeN (vs := [_, _]) (cs' := [_, _]) sz_50 rfl rfl rfl rfl rfl rfl rfl .here) ?_
 intro _ _
 refine nQ ?_
 refine c_seq ?_
 refine c_draw [] mixed rfl ?_
 refine dM 0 rfl rfl ?_
 refine dN 1 rfl rfl ?_
 refine dV 2 rfl (y_fieldAddr fo_95_4 rfl) ?_
 refine dV 3 rfl (y_fieldAddr fo_91_0 rfl) ?_
 refine dV 4 rfl (y_indexArr (j := 2) ar_89 rfl rfl (blt513 (by omega))) ?_
 refine dV 5 rfl (y_oldLoad1 ld_41 rfl hMb hMS (hMv (2) _ h2)) ?_
 refine dM 6 rfl rfl ?_
 refine dN 7 rfl rfl ?_
 refine dV 8 rfl (y_fieldAddr fo_95_4 rfl) ?_
 refine dV 9 rfl (y_fieldAddr fo_91_0 rfl) ?_
 refine dV 10 rfl (y_indexArr (j := 3) ar_89 rfl rfl (blt513 (by omega))) ?_
 refine dV 11 rfl (y_oldLoad1 ld_41 rfl hMb hMS (hMv (3) _ h3)) ?_
 refine d_ready (i := 12) (rs := []) (by kernel_rfl) .nil (all_one ?_)
 refine o_call rfl (no_guard rfl) ok_148 rfl rfl (out_one [] (b := (b6, [] ++ (.float .f64 (F (q.x + a0)) :: .float .f64 (F (q.y + a1)) :: []), 50)) (fun w9 ha_ hb_ => f148_any w9 b6 [] [] 50 (q.x + a0) (q.y + a1) a2 a3 (F a2) (F a3) (by omega) (by omega) (RF_F (by omega)) (RF_F (by omega)) (by omega) (by omega) hb_)) ?_
 intro _ _
 refine d_end (by kernel_rfl) .nil ?_
 refine qR ?_
 refine lV (y_loadN (vs := [_, _]) ld_50 rfl m0 rfl rfl) ?_
 refine l_gives rfl rfl (g_alloc ze_50) rfl ?_
 intro b7 hb7
 refine l_does rfl rfl (g_storeN (vs := [_, _]) (cs' := [_, _]) sz_50 rfl rfl rfl rfl rfl rfl rfl .here) ?_
 intro _ _
 refine nQ ?_
 refine c_seq ?_
 refine c_draw [] mixed rfl ?_
 refine dV 0 rfl (y_fieldAddr fo_50_0 rfl) ?_
 refine dM 2 rfl rfl ?_
 refine dN 3 rfl rfl ?_
 refine dV 4 rfl (y_fieldAddr fo_95_4 rfl) ?_
 refine dV 5 rfl (y_fieldAddr fo_91_0 rfl) ?_
 refine dV 6 rfl (y_indexArr (j := 4) ar_89 rfl rfl (blt513 (by omega))) ?_
 refine dV 7 rfl (y_oldLoad1 ld_41 rfl hMb hMS (hMv (4) _ h4)) ?_
 refine d_ready (i := 1) (rs := []) (by kernel_rfl) .nil (all_one ?_)
 refine o_gives rfl rfl rfl (gy (y_load1 ld_41 rfl m0 rfl)) rfl ?_
 intro _ _
 refine dV 8 rfl (y_fadd (a := ((q.x + a0) + a2)) (b := a4) rfl rfl (by omega) (RF_F (by omega)) (by omega)) ?_
 refine dV 9 rfl (y_fieldAddr fo_50_0 rfl) ?_
 refine d_ready (i := 10) (rs := []) (by kernel_rfl) .nil (all_one ?_)
 refine o_does rfl rfl rfl (g_store1 (cs' := [_, _]) sz_41 rfl rfl rfl rfl rfl rfl .here) ?_
 intro _ _
 refine d_end (by kernel_rfl) .nil ?_
 refine qR ?_
 refine lV (y_loadN (vs := [_, _]) ld_50 rfl m0 rfl rfl) ?_
 refine l_gives rfl rfl (g_alloc ze_50) rfl ?_
 intro b8 hb8
 refine l_does rfl rfl (g_storeN (vs := [_, _]) (cs' := [_, _]) sz_50 rfl rfl rfl rfl rfl rfl rfl .here) ?_
 intro _ _
 refine nQ ?_
 refine c_seq ?_
 refine c_draw [] mixed rfl ?_
 refine dV 0 rfl (y_fieldAddr fo_50_0 rfl) ?_
 refine dM 2 rfl rfl ?_
 refine dN 3 rfl rfl ?_
 refine dV 4 rfl (y_fieldAddr fo_95_4 rfl) ?_
 refine dV 5 rfl (y_fieldAddr fo_91_0 rfl) ?_
 refine dV 6 rfl (y_indexArr (j := 5) ar_89 rfl rfl (blt513 (by omega))) ?_
 refine dV 7 rfl (y_oldLoad1 ld_41 rfl hMb hMS (hMv (5) _ h5)) ?_
 refine d_ready (i := 1) (rs := []) (by kernel_rfl) .nil (all_one ?_)
 refine o_gives rfl rfl rfl (gy (y_load1 ld_41 rfl m0 rfl)) rfl ?_
 intro _ _
 refine dV 8 rfl (y_fadd (a := (((q.x + a0) + a2) + a4)) (b := a5) rfl rfl (by omega) (RF_F (by omega)) (by omega)) ?_
 refine dV 9 rfl (y_fieldAddr fo_50_0 rfl) ?_
 refine d_ready (i := 10) (rs := []) (by kernel_rfl) .nil (all_one ?_)
 refine o_does rfl rfl rfl (g_store1 (cs' := [_, _]) sz_41 rfl rfl rfl rfl rfl rfl .here) ?_
 intro _ _
 refine d_end (by kernel_rfl) .nil ?_
 refine qR ?_
 refine lV (y_loadN (vs := [_, _]) ld_50 rfl m0 rfl rfl) ?_
 refine l_gives rfl rfl (g_alloc ze_50) rfl ?_
 intro b9 hb9
 refine l_does rfl rfl (g_storeN (vs := [_, _]) (cs' := [_, _]) sz_50 rfl rfl rfl rfl rfl rfl rfl .here) ?_
 intro _ _
 refine nQ ?_
 refine c_seq ?_
 refine c_draw [] mixed rfl ?_
 refine dM 0 rfl rfl ?_
 refine dN 1 rfl rfl ?_
 refine dV 2 rfl (y_fieldAddr fo_95_4 rfl) ?_
 refine dV 3 rfl (y_fieldAddr fo_91_0 rfl) ?_
 refine dV 4 rfl (y_indexArr (j := 6) ar_89 rfl rfl (blt513 (by omega))) ?_
 refine dV 5 rfl (y_oldLoad1 ld_41 rfl hMb hMS (hMv (6) _ h6)) ?_
 refine dM 6 rfl rfl ?_
 refine dN 7 rfl rfl ?_
 refine dV 8 rfl (y_fieldAddr fo_95_4 rfl) ?_
 refine dV 9 rfl (y_fieldAddr fo_91_0 rfl) ?_
 refine dV 10 rfl (y_indexArr (j := 7) ar_89 rfl rfl (blt513 (by omega))) ?_
 refine dV 11 rfl (y_oldLoad1 ld_41 rfl hMb hMS (hMv (7) _ h7)) ?_
 refine d_ready (i := 12) (rs := []) (by kernel_rfl) .nil (all_one ?_)
 refine o_call rfl (no_guard rfl) ok_148 rfl rfl (out_one [] (b := (b9, [] ++ (.float .f64 (F ((((q.x + a0) + a2) + a4) + a5)) :: .float .f64 (F ((q.y + a1) + a3)) :: []), 50)) (fun w9 ha_ hb_ => f148_any w9 b9 [] [] 50 ((((q.x + a0) + a2) + a4) + a5) ((q.y + a1) + a3) a6 a7 (F a6) (F a7) (by omega) (by omega) (RF_F (by omega)) (RF_F (by omega)) (by omega) (by omega) hb_)) ?_
 intro _ _
 refine d_end (by kernel_rfl) .nil ?_
 refine qR ?_
 refine lV (y_loadN (vs := [_, _]) ld_50 rfl m0 rfl rfl) ?_
 refine l_gives rfl rfl (g_alloc ze_50) rfl ?_
 intro b10 hb10
 refine l_does rfl rfl (g_storeN (vs := [_, _]) (cs' := [_, _]) sz_50 rfl rfl rfl rfl rfl rfl rfl .here) ?_
 intro _ _
 refine nQ ?_
 refine c_seq ?_
 refine c_draw [] mixed rfl ?_
 refine dV 0 rfl (y_fieldAddr fo_50_0 rfl) ?_
 refine dM 2 rfl rfl ?_
 refine dN 3 rfl rfl ?_
 refine dV 4 rfl (y_fieldAddr fo_95_4 rfl) ?_
 refine dV 5 rfl (y_fieldAddr fo_91_0 rfl) ?_
 refine dV 6 rfl (y_indexArr (j := 8) ar_89 rfl rfl (blt513 (by omega))) ?_
 refine dV 7 rfl (y_oldLoad1 ld_41 rfl hMb hMS (hMv (8) _ h8)) ?_
 refine d_ready (i := 1) (rs := []) (by kernel_rfl) .nil (all_one ?_)
 refine o_gives rfl rfl rfl (gy (y_load1 ld_41 rfl m0 rfl)) rfl ?_
 intro _ _
 refine dV 8 rfl (y_fadd (a := (((((q.x + a0) + a2) + a4) + a5) + a6)) (b := a8) rfl rfl (by omega) (RF_F (by omega)) (by omega)) ?_
 refine dV 9 rfl (y_fieldAddr fo_50_0 rfl) ?_
 refine d_ready (i := 10) (rs := []) (by kernel_rfl) .nil (all_one ?_)
 refine o_does rfl rfl rfl (g_store1 (cs' := [_, _]) sz_41 rfl rfl rfl rfl rfl rfl .here) ?_
 intro _ _
 refine d_end (by kernel_rfl) .nil ?_
 refine qR ?_
 refine lM rfl ?_
 refine lN rfl ?_
 refine lV (y_fieldAddr fo_97_5 rfl) ?_
 refine lV (y_fieldAddr fo_50_1 rfl) ?_
 refine lV (y_load1 ld_41 rfl m6 rfl) ?_
 refine lV (y_fieldAddr fo_50_1 rfl) ?_
 refine l_does rfl rfl (g_store1 (cs' := [_, _]) sz_41 rfl rfl rfl rfl rfl rfl .here) ?_
 intro _ _
 refine nR ?_
 refine lM rfl ?_
 refine lV (y_loadN (vs := [_, _]) ld_50 rfl m5 rfl rfl) ?_
 refine lV (y_loadN (vs := [_, _]) ld_50 rfl m4 rfl rfl) ?_
 refine lV (y_loadN (vs := [_, _]) ld_50 rfl m3 rfl rfl) ?_
 refine lV (y_loadN (vs := [_, _]) ld_50 rfl m2 rfl rfl) ?_
 refine lV (y_loadN (vs := [_, _]) ld_50 rfl m1 rfl rfl) ?_
 refine lV (y_loadN (vs := [_, _]) ld_50 rfl m0 rfl rfl) ?_
 refine l_call ok_152 rfl rfl (out_tail (A := [_, _, _, _, _, _]) (H1 := (HB bH so q.out.length q.bx v5 v6 v7 q.x q.y q.fx q.fy q.io v13 ((q.bx).isSome) wd) :: slH so (encG q.out) 77) (fun w9 ha_ hb_ => f152_any w9 bH (M + 20 * 2147483648) q so v5 v6 v7 v13 wd (Nat.lt_of_le_of_lt (show (M + 20 * 2147483648) ≤ M + 60 * 2147483648 by omega) (by omega)) (hB0.mono (by omega)) (q.x + a0) (q.y + a1) ((q.x + a0) + a2) ((q.y + a1) + a3) (((q.x + a0) + a2) + a4) ((q.y + a1) + a3) ((((q.x + a0) + a2) + a4) + a5) ((q.y + a1) + a3) (((((q.x + a0) + a2) + a4) + a5) + a6) (((q.y + a1) + a3) + a7) ((((((q.x + a0) + a2) + a4) + a5) + a6) + a8) q.y (by omega) (by omega) (by omega) (by omega) (by omega) (by omega) (by omega) (by omega) (by omega) (by omega) (by omega) (by omega) hok (by omega) hb_)) ?_
 intro so_1 hok_1
 refine nR ?_
 refine lA rfl ?_
 refine nQ ?_
 refine c_ret ?_
 have hE2 : (curveA (curveA q (q.x + a0) (q.y + a1) ((q.x + a0) + a2) ((q.y + a1) + a3) (((q.x + a0) + a2) + a4) ((q.y + a1) + a3)) ((((q.x + a0) + a2) + a4) + a5) ((q.y + a1) + a3) (((((q.x + a0) + a2) + a4) + a5) + a6) (((q.y + a1) + a3) + a7) ((((((q.x + a0) + a2) + a4) + a5) + a6) + a8) q.y) = curveQ (curveQ q a0 a1 a2 a3 a4 0) a5 0 a6 a7 a8 (-(a1 + a3 + a7)) := curveQ_of (curveQ_of rfl (by omega) (by omega) (by omega) (by omega) (by omega) (by omega)) (by simp only [curveQ] <;> omega) (by simp only [curveQ] <;> omega) (by simp only [curveQ] <;> omega) (by simp only [curveQ] <;> omega) (by simp only [curveQ] <;> omega) (by simp only [curveQ] <;> omega)
 rw [← hE2]
 exact body_ret (rs := [.tmp 4]) rfl (vs := [.nilIface]) ⟨rfl, trivial⟩ (out_end so_1 hok_1 rfl (.cons (.there (.there (.there (.there (.there (.there .here)))))) (.skip (.skip (.skip (.skip (.skip (.skip .refl)))))))) _ (.inr rfl)
set_option maxHeartbeats 8000000 in
theorem f131_any (w : World) (bH bM M : Nat) (q : QSt) (so : Sv) (v5 v6 v7 v13 : Value) (wd : List Value) (st : List Int) (hn : st.length ≤ 48) (hq : ∀ q ∈ st, Opd q) (hB0 : q.Bd M) (hM : M + 120 * 2147483648 < 2 ^ 53) (hok : slOk so q.out.length 7 (encG q.out)) (hlen : q.out.length ≤ 70000) (h8 : 8 ≤ st.length) (he : st.length % 6 = 2) (hR : RdM w (((HB bH so q.out.length q.bx v5 v6 v7 q.x q.y q.fx q.fy q.io v13 ((q.bx).isSome) wd) :: slH so (encG q.out) 77).map (·.1)) bM st) (hw : Hp w (((HB bH so q.out.length q.bx v5 v6 v7 q.x q.y q.fx q.fy q.io v13 ((q.bx).isSome) wd) :: slH so (encG q.out) 77).map (·.1)) ((HB bH so q.out.length q.bx v5 v6 v7 q.x q.y q.fx q.fy q.io v13 ((q.bx).isSome) wd) :: slH so (encG q.out) 77) w) : Calls Tryz.prog 131 [.pointer (some ⟨bH, 0, none⟩), .pointer (some ⟨bM, 0, none⟩)].toArray w (Out w (((HB bH so q.out.length q.bx v5 v6 v7 q.x q.y q.fx q.fy q.io v13 ((q.bx).isSome) wd) :: slH so (encG q.out) 77).map (·.1)) (fun z : Sv => slOk z (linesQ (curvesQ q (st.take (st.length - 2))) (st.drop (st.length - 2))).out.length 7 (encG (linesQ (curvesQ q (st.take (st.length - 2))) (st.drop (st.length - 2))).out)) (fun z => .nilIface) (fun z => (HB bH z (linesQ (curvesQ q (st.take (st.length - 2))) (st.drop (st.length - 2))).out.length ((linesQ (curvesQ q (st.take (st.length - 2))) (st.drop (st.length - 2))).bx) v5 v6 v7 ((linesQ (curvesQ q (st.take (st.length - 2))) (st.drop (st.length - 2))).x) ((linesQ (curvesQ q (st.take (st.length - 2))) (st.drop (st.length - 2))).y) ((linesQ (curvesQ q (st.take (st.length - 2))) (st.drop (st.length - 2))).fx) ((linesQ (curvesQ q (st.take (st.length - 2))) (st.drop (st.length - 2))).fy) ((linesQ (curvesQ q (st.take (st.length - 2))) (st.drop (st.length - 2))).io) v13 (((linesQ (curvesQ q (st.take (st.length - 2))) (st.drop (st.length - 2))).bx).isSome) wd) :: slH z (encG (linesQ (curvesQ q (st.take (st.length - 2))) (st.drop (st.length - 2))).out) 77)) := by
 obtain ⟨hMb, hMS, hMt, hMv⟩ := hR
 have hqx0 := nb hB0.x
 have hqy0 := nb hB0.y
 refine enter (n := 112) Tryz.func131 rfl rfl rfl hw ?_
 refine cR ?_
 refine lA rfl ?_
 refine nR ?_
 refine lM rfl ?_
 refine lN rfl ?_
 refine lV (y_fieldAddr fo_95_4 rfl) ?_
 refine lV (y_fieldAddr fo_91_1 rfl) ?_
 refine lV (y_oldLoad1 ld_21 rfl hMb hMS hMt) ?_
 refine lA rfl ?_
 refine nQ ?_
 refine c_seq ?_
 refine cR ?_
 refine lM rfl ?_
 refine lV (y_bin rfl rfl rfl (boolF (by omega))) ?_
 refine nQ ?_
 refine c_false rfl rfl ?_
 refine kR ?_
 refine lA rfl ?_
 refine nR ?_
 refine lM rfl ?_
 refine lV (y_bin rfl rfl rfl (fitI (m := st.length - 2) (by omega) (by omega))) ?_
 refine lA rfl ?_
 refine nQ ?_
 refine c_seq ?_
 refine c_block ?_
 refine c_loop (ι := Nat × QSt × Sv) (φ := fun z => z.1 ≤ st.length - 2 ∧ z.1 % 6 = 0 ∧ curvesQ z.2.1 ((st.take (st.length - 2)).drop z.1) = curvesQ q (st.take (st.length - 2)) ∧ z.2.1.Bd (M + z.1 * 2147483648) ∧ slOk z.2.2 z.2.1.out.length 7 (encG z.2.1.out) ∧ z.2.1.out.length ≤ q.out.length + z.1) (L' := fun z => [(0, .pointer (some ⟨bH, 0, none⟩)), (1, .pointer (some ⟨bM, 0, none⟩)), (6, .int .i32 (z.1 : Nat)), (7, .int .i32 ((st.length - 2 : Nat) : Int))]) (H' := fun z => (HB bH z.2.2 z.2.1.out.length z.2.1.bx v5 v6 v7 z.2.1.x z.2.1.y z.2.1.fx z.2.1.fy z.2.1.io v13 ((z.2.1.bx).isSome) wd) :: slH z.2.2 (encG z.2.1.out) 77) (fun z => st.length - z.1) (0, q, so) ⟨Nat.zero_le _, rfl, rfl, by simpa using hB0, hok, Nat.le_refl _⟩ ⟨rfl, rfl, rfl, rfl, trivial⟩ (.cons .here .refl) ?_
 intro ⟨k, q1, so1⟩ ⟨hk, hke, hE, hB, hok1, hol⟩
 simp only at hk hke hE hB hok1 hol ⊢
 have hqx := nb hB.x
 have hqy := nb hB.y
 refine c_seq ?_
 refine cR ?_
 refine lM rfl ?_
 refine lV (y_bin rfl rfl rfl (fitI (m := k + 6) (by omega) (by omega))) ?_
 refine lM rfl ?_
 refine lB rfl rfl rfl rfl ?_
 refine nQ ?_
 refine c_cond rfl (fun hc25 => ?_) (fun hc25 => ?_)
 ·have hk2 : k + 6 ≤ st.length - 2 := by simp only [decide_eq_true_eq] at hc25; omega
  obtain ⟨a0, h0⟩ := at_of (l := st) (i := k) (by omega)
  have n0 := at_opd hq h0
  obtain ⟨a1, h1⟩ := at_of (l := st) (i := k + 1) (by omega)
  have n1 := at_opd hq h1
  obtain ⟨a2, h2⟩ := at_of (l := st) (i := k + 2) (by omega)
  have n2 := at_opd hq h2
  obtain ⟨a3, h3⟩ := at_of (l := st) (i := k + 3) (by omega)
  have n3 := at_opd hq h3
  obtain ⟨a4, h4⟩ := at_of (l := st) (i := k + 4) (by omega)
  have n4 := at_opd hq h4
  obtain ⟨a5, h5⟩ := at_of (l := st) (i := k + 5) (by omega)
  have n5 := at_opd hq h5
  have hd : (st.take (st.length - 2)).drop k = a0 :: a1 :: a2 :: a3 :: a4 :: a5 :: (st.take (st.length - 2)).drop (k + 6) := by rw [drop_cons (take_at (by omega) h0), drop_cons (take_at (by omega) h1), drop_cons (take_at (by omega) h2), drop_cons (take_at (by omega) h3), drop_cons (take_at (by omega) h4), drop_cons (take_at (by omega) h5)]
  refine kQ ?_
  refine c_seq ?_
  refine c_block ?_
  refine cR ?_
  refine lM rfl ?_
  refine lN rfl ?_
  refine lV (y_fieldAddr fo_97_5 rfl) ?_
  refine lV (y_loadN (vs := [_, _]) ld_50 rfl m0 rfl rfl) ?_
  refine l_gives rfl rfl (g_alloc ze_50) rfl ?_
  intro b8 hb8
  refine l_does rfl rfl (g_storeN (vs := [_, _]) (cs' := [_, _]) sz_50 rfl rfl rfl rfl rfl rfl rfl .here) ?_
  intro _ _
  refine nQ ?_
  refine c_seq ?_
  refine c_draw [] mixed rfl ?_
  refine dM 0 rfl rfl ?_
  refine dM 1 rfl rfl ?_
  refine dN 2 rfl rfl ?_
  refine dV 3 rfl (y_fieldAddr fo_95_4 rfl) ?_
  refine dV 4 rfl (y_fieldAddr fo_91_0 rfl) ?_
  refine dV 5 rfl (y_indexArr (j := k) ar_89 rfl rfl (blt513 (by omega))) ?_
  refine dV 6 rfl (y_oldLoad1 ld_41 rfl hMb hMS (hMv (k) _ h0)) ?_
  refine dM 7 rfl rfl ?_
  refine dM 8 rfl rfl ?_
  refine dV 9 rfl (y_bin rfl rfl rfl (fitI (m := k + 1) (by omega) (by omega))) ?_
  refine dN 10 rfl rfl ?_
  refine dV 11 rfl (y_fieldAddr fo_95_4 rfl) ?_
  refine dV 12 rfl (y_fieldAddr fo_91_0 rfl) ?_
  refine dV 13 rfl (y_indexArr (j := k + 1) ar_89 rfl rfl (blt513 (by omega))) ?_
  refine dV 14 rfl (y_oldLoad1 ld_41 rfl hMb hMS (hMv (k + 1) _ h1)) ?_
  refine d_ready (i := 15) (rs := []) (by kernel_rfl) .nil (all_one ?_)
  refine o_call rfl (no_guard rfl) ok_148 rfl rfl (out_one [] (b := (b8, [] ++ (.float .f64 (F q1.x) :: .float .f64 (F q1.y) :: []), 50)) (fun w9 ha_ hb_ => f148_any w9 b8 [] [] 50 q1.x q1.y a0 a1 (F a0) (F a1) (by omega) (by omega) (RF_F (by omega)) (RF_F (by omega)) (by omega) (by omega) hb_)) ?_
  intro _ _
  refine d_end (by kernel_rfl) .nil ?_
  refine qR ?_
  refine lV (y_loadN (vs := [_, _]) ld_50 rfl m0 rfl rfl) ?_
  refine l_gives rfl rfl (g_alloc ze_50) rfl ?_
  intro b9 hb9
  refine l_does rfl rfl (g_storeN (vs := [_, _]) (cs' := [_, _]) sz_50 rfl rfl rfl rfl rfl rfl rfl .here) ?_
  intro _ _
  refine nQ ?_
  refine c_seq ?_
  refine c_draw [] mixed rfl ?_
  refine dM 0 rfl rfl ?_
  refine dM 1 rfl rfl ?_
  refine dV 2 rfl (y_bin rfl rfl rfl (fitI (m := k + 2) (by omega) (by omega))) ?_
  refine dN 3 rfl rfl ?_
  refine dV 4 rfl (y_fieldAddr fo_95_4 rfl) ?_
  refine dV 5 rfl (y_fieldAddr fo_91_0 rfl) ?_
  refine dV 6 rfl (y_indexArr (j := k + 2) ar_89 rfl rfl (blt513 (by omega))) ?_
  refine dV 7 rfl (y_oldLoad1 ld_41 rfl hMb hMS (hMv (k + 2) _ h2)) ?_
  refine dM 8 rfl rfl ?_
  refine dM 9 rfl rfl ?_
  refine dV 10 rfl (y_bin rfl rfl rfl (fitI (m := k + 3) (by omega) (by omega))) ?_
  refine dN 11 rfl rfl ?_
  refine dV 12 rfl (y_fieldAddr fo_95_4 rfl) ?_
  refine dV 13 rfl (y_fieldAddr fo_91_0 rfl) ?_
  refine dV 14 rfl (y_indexArr (j := k + 3) ar_89 rfl rfl (blt513 (by omega))) ?_
  refine dV 15 rfl (y_oldLoad1 ld_41 rfl hMb hMS (hMv (k + 3) _ h3)) ?_
  refine d_ready (i := 16) (rs := []) (by kernel_rfl) .nil (all_one ?_)
  refine o_call rfl (no_guard rfl) ok_148 rfl rfl (out_one [] (b := (b9, [] ++ (.float .f64 (F (q1.x + a0)) :: .float .f64 (F (q1.y + a1)) :: []), 50)) (fun w9 ha_ hb_ => f148_any w9 b9 [] [] 50 (q1.x + a0) (q1.y + a1) a2 a3 (F a2) (F a3) (by omega) (by omega) (RF_F (by omega)) (RF_F (by omega)) (by omega) (by omega) hb_)) ?_
  intro _ _
  refine d_end (by kernel_rfl) .nil ?_
  refine qR ?_
  refine lV (y_loadN (vs := [_, _]) ld_50 rfl m0 rfl rfl) ?_
  refine l_gives rfl rfl (g_alloc ze_50) rfl ?_
  intro b10 hb10
  refine l_does rfl rfl (g_storeN (vs := [_, _]) (cs' := [_, _]) sz_50 rfl rfl rfl rfl rfl rfl rfl .here) ?_
  intro _ _
  refine nQ ?_
  refine c_seq ?_
  refine c_draw [] mixed rfl ?_
  refine dM 0 rfl rfl ?_
  refine dM 1 rfl rfl ?_
  refine dV 2 rfl (y_bin rfl rfl rfl (fitI (m := k + 4) (by omega) (by omega))) ?_
  refine dN 3 rfl rfl ?_
  refine dV 4 rfl (y_fieldAddr fo_95_4 rfl) ?_
  refine dV 5 rfl (y_fieldAddr fo_91_0 rfl) ?_
  refine dV 6 rfl (y_indexArr (j := k + 4) ar_89 rfl rfl (blt513 (by omega))) ?_
  refine dV 7 rfl (y_oldLoad1 ld_41 rfl hMb hMS (hMv (k + 4) _ h4)) ?_
  refine dM 8 rfl rfl ?_
  refine dM 9 rfl rfl ?_
  refine dV 10 rfl (y_bin rfl rfl rfl (fitI (m := k + 5) (by omega) (by omega))) ?_
  refine dN 11 rfl rfl ?_
  refine dV 12 rfl (y_fieldAddr fo_95_4 rfl) ?_
  refine dV 13 rfl (y_fieldAddr fo_91_0 rfl) ?_
  refine dV 14 rfl (y_indexArr (j := k + 5) ar_89 rfl rfl (blt513 (by omega))) ?_
  refine dV 15 rfl (y_oldLoad1 ld_41 rfl hMb hMS (hMv (k + 5) _ h5)) ?_
  refine d_ready (i := 16) (rs := []) (by kernel_rfl) .nil (all_one ?_)
  refine o_call rfl (no_guard rfl) ok_148 rfl rfl (out_one [] (b := (b10, [] ++ (.float .f64 (F ((q1.x + a0) + a2)) :: .float .f64 (F ((q1.y + a1) + a3)) :: []), 50)) (fun w9 ha_ hb_ => f148_any w9 b10 [] [] 50 ((q1.x + a0) + a2) ((q1.y + a1) + a3) a4 a5 (F a4) (F a5) (by omega) (by omega) (RF_F (by omega)) (RF_F (by omega)) (by omega) (by omega) hb_)) ?_
  intro _ _
  refine d_end (by kernel_rfl) .nil ?_
  refine qG ?_
  refine lM rfl ?_
  refine lV (y_loadN (vs := [_, _]) ld_50 rfl m2 rfl rfl) ?_
  refine lV (y_loadN (vs := [_, _]) ld_50 rfl m1 rfl rfl) ?_
  refine lV (y_loadN (vs := [_, _]) ld_50 rfl m0 rfl rfl) ?_
  refine l_call ok_151 rfl rfl (out_tail (A := [_, _, _]) (H1 := (HB bH so1 q1.out.length q1.bx v5 v6 v7 q1.x q1.y q1.fx q1.fy q1.io v13 ((q1.bx).isSome) wd) :: slH so1 (encG q1.out) 77) (fun w9 ha_ hb_ => f151_any w9 bH (M + (k + 6) * 2147483648) q1 so1 v5 v6 v7 v13 wd (Nat.lt_of_le_of_lt (show (M + (k + 6) * 2147483648) ≤ M + 60 * 2147483648 by omega) (by omega)) (hB.mono (by omega)) (q1.x + a0) (q1.y + a1) ((q1.x + a0) + a2) ((q1.y + a1) + a3) (((q1.x + a0) + a2) + a4) (((q1.y + a1) + a3) + a5) (by omega) (by omega) (by omega) (by omega) (by omega) (by omega) hok1 (by omega) hb_)) ?_
  intro so_1 hok_1
  have hB_1 := curveA_bd (hB.mono (N := (M + (k + 6) * 2147483648)) (by omega)) (show ((q1.x + a0)).natAbs ≤ _ by omega) (show ((q1.y + a1)).natAbs ≤ _ by omega) (show (((q1.x + a0) + a2)).natAbs ≤ _ by omega) (show (((q1.y + a1) + a3)).natAbs ≤ _ by omega) (show ((((q1.x + a0) + a2) + a4)).natAbs ≤ _ by omega) (show ((((q1.y + a1) + a3) + a5)).natAbs ≤ _ by omega)
  have hl_1 : (curveA q1 (q1.x + a0) (q1.y + a1) ((q1.x + a0) + a2) ((q1.y + a1) + a3) (((q1.x + a0) + a2) + a4) (((q1.y + a1) + a3) + a5)).out.length = q1.out.length + 1 := curveA_len
  refine l_nil ?_
  refine q_block ?_
  refine qG ?_
  refine lM rfl ?_
  refine lV (y_bin rfl rfl rfl (fitI (m := k + 6) (by omega) (by omega))) ?_
  refine lA rfl ?_
  refine l_nil ?_
  exact q_rnd (k + 6, (curveA q1 (q1.x + a0) (q1.y + a1) ((q1.x + a0) + a2) ((q1.y + a1) + a3) (((q1.x + a0) + a2) + a4) (((q1.y + a1) + a3) + a5)), so_1) ⟨by simp only; omega, by simp only; omega, by rw [← hE, hd]; rfl, hB_1, hok_1, by simp only; omega⟩ (by simp only; omega) ⟨rfl, rfl, rfl, rfl, trivial⟩ (.cons (.there (.there (.there .here))) (.skip (.skip (.skip .refl))))
 ·have hk3 : ¬ k + 6 ≤ st.length - 2 := by simp only [decide_eq_false_iff_not] at hc25; omega
  have hkn : k = st.length - 2 := by omega
  rw [List.drop_of_length_le (by rw [List.length_take]; omega)] at hE
  have hE2 : q1 = curvesQ q (st.take (st.length - 2)) := hE
  obtain ⟨a0, h0⟩ := at_of (l := st) (i := k) (by omega)
  have n0 := at_opd hq h0
  obtain ⟨a1, h1⟩ := at_of (l := st) (i := k + 1) (by omega)
  have n1 := at_opd hq h1
  have hd : st.drop (st.length - 2) = [a0, a1] := by rw [← hkn, drop_cons h0, drop_cons h1, List.drop_of_length_le (by omega)]
  refine c_exit ?_
  refine q_then_exit ?_
  refine q_rnd_exit ?_
  refine q_block_exit ?_
  refine qR ?_
  refine lM rfl ?_
  refine lN rfl ?_
  refine lV (y_fieldAddr fo_97_5 rfl) ?_
  refine lV (y_loadN (vs := [_, _]) ld_50 rfl m0 rfl rfl) ?_
  refine l_gives rfl rfl (g_alloc ze_50) rfl ?_
  intro b11 hb11
  refine l_does rfl rfl (g_storeN (vs := [_, _]) (cs' := [_, _]) sz_50 rfl rfl rfl rfl rfl rfl rfl .here) ?_
  intro _ _
  refine nQ ?_
  refine c_seq ?_
  refine c_draw [] mixed rfl ?_
  refine dM 0 rfl rfl ?_
  refine dM 1 rfl rfl ?_
  refine dN 2 rfl rfl ?_
  refine dV 3 rfl (y_fieldAddr fo_95_4 rfl) ?_
  refine dV 4 rfl (y_fieldAddr fo_91_0 rfl) ?_
  refine dV 5 rfl (y_indexArr (j := k) ar_89 rfl rfl (blt513 (by omega))) ?_
  refine dV 6 rfl (y_oldLoad1 ld_41 rfl hMb hMS (hMv (k) _ h0)) ?_
  refine dM 7 rfl rfl ?_
  refine dM 8 rfl rfl ?_
  refine dV 9 rfl (y_bin rfl rfl rfl (fitI (m := k + 1) (by omega) (by omega))) ?_
  refine dN 10 rfl rfl ?_
  refine dV 11 rfl (y_fieldAddr fo_95_4 rfl) ?_
  refine dV 12 rfl (y_fieldAddr fo_91_0 rfl) ?_
  refine dV 13 rfl (y_indexArr (j := k + 1) ar_89 rfl rfl (blt513 (by omega))) ?_
  refine dV 14 rfl (y_oldLoad1 ld_41 rfl hMb hMS (hMv (k + 1) _ h1)) ?_
  refine d_ready (i := 15) (rs := []) (by kernel_rfl) .nil (all_one ?_)
  refine o_call rfl (no_guard rfl) ok_148 rfl rfl (out_one [] (b := (b11, [] ++ (.float .f64 (F q1.x) :: .float .f64 (F q1.y) :: []), 50)) (fun w9 ha_ hb_ => f148_any w9 b11 [] [] 50 q1.x q1.y a0 a1 (F a0) (F a1) (by omega) (by omega) (RF_F (by omega)) (RF_F (by omega)) (by omega) (by omega) hb_)) ?_
  intro _ _
  refine d_end (by kernel_rfl) .nil ?_
  refine qR ?_
  refine lM rfl ?_
  refine lV (y_loadN (vs := [_, _]) ld_50 rfl m0 rfl rfl) ?_
  refine l_call ok_149 rfl rfl (out_tail (A := [_]) (H1 := (HB bH so1 q1.out.length q1.bx v5 v6 v7 q1.x q1.y q1.fx q1.fy q1.io v13 ((q1.bx).isSome) wd) :: slH so1 (encG q1.out) 77) (fun w9 ha_ hb_ => f149_any w9 bH (M + (k + 2) * 2147483648) q1 so1 v5 v6 v7 v13 wd (Nat.lt_of_le_of_lt (show (M + (k + 2) * 2147483648) ≤ M + 60 * 2147483648 by omega) (by omega)) (hB.mono (by omega)) (q1.x + a0) (q1.y + a1) (by omega) (by omega) hok1 (by omega) hb_)) ?_
  intro so_1 hok_1
  have hB_1 := lineA_bd (hB.mono (N := (M + (k + 2) * 2147483648)) (by omega)) (show ((q1.x + a0)).natAbs ≤ _ by omega) (show ((q1.y + a1)).natAbs ≤ _ by omega)
  have hl_1 : (lineA q1 (q1.x + a0) (q1.y + a1)).out.length = q1.out.length + 1 := lineA_len
  refine nR ?_
  refine lA rfl ?_
  refine nQ ?_
  refine c_ret ?_
  have hE3 : (lineA q1 (q1.x + a0) (q1.y + a1)) = linesQ (curvesQ q (st.take (st.length - 2))) (st.drop (st.length - 2)) := by rw [hd, ← hE2]; rfl
  rw [← hE3]
  exact body_ret (rs := [.tmp 4]) rfl (vs := [.nilIface]) ⟨rfl, trivial⟩ (out_end so_1 hok_1 rfl (.cons (.there .here) (.skip .refl))) _ (.inr rfl)
set_option maxHeartbeats 8000000 in
theorem f132_any (w : World) (bH bM M : Nat) (q : QSt) (so : Sv) (v5 v6 v7 v13 : Value) (wd : List Value) (st : List Int) (hn : st.length ≤ 48) (hq : ∀ q ∈ st, Opd q) (hB0 : q.Bd M) (hM : M + 120 * 2147483648 < 2 ^ 53) (hok : slOk so q.out.length 7 (encG q.out)) (hlen : q.out.length ≤ 70000) (h8 : 8 ≤ st.length) (he : st.length % 2 = 0) (hR : RdM w (((HB bH so q.out.length q.bx v5 v6 v7 q.x q.y q.fx q.fy q.io v13 ((q.bx).isSome) wd) :: slH so (encG q.out) 77).map (·.1)) bM st) (hw : Hp w (((HB bH so q.out.length q.bx v5 v6 v7 q.x q.y q.fx q.fy q.io v13 ((q.bx).isSome) wd) :: slH so (encG q.out) 77).map (·.1)) ((HB bH so q.out.length q.bx v5 v6 v7 q.x q.y q.fx q.fy q.io v13 ((q.bx).isSome) wd) :: slH so (encG q.out) 77) w) : Calls Tryz.prog 132 [.pointer (some ⟨bH, 0, none⟩), .pointer (some ⟨bM, 0, none⟩)].toArray w (Out w (((HB bH so q.out.length q.bx v5 v6 v7 q.x q.y q.fx q.fy q.io v13 ((q.bx).isSome) wd) :: slH so (encG q.out) 77).map (·.1)) (fun z : Sv => slOk z (curvesQ (linesQ q (st.take (st.length - 6))) (st.drop (st.length - 6))).out.length 7 (encG (curvesQ (linesQ q (st.take (st.length - 6))) (st.drop (st.length - 6))).out)) (fun z => .nilIface) (fun z => (HB bH z (curvesQ (linesQ q (st.take (st.length - 6))) (st.drop (st.length - 6))).out.length ((curvesQ (linesQ q (st.take (st.length - 6))) (st.drop (st.length - 6))).bx) v5 v6 v7 ((curvesQ (linesQ q (st.take (st.length - 6))) (st.drop (st.length - 6))).x) ((curvesQ (linesQ q (st.take (st.length - 6))) (st.drop (st.length - 6))).y) ((curvesQ (linesQ q (st.take (st.length - 6))) (st.drop (st.length - 6))).fx) ((curvesQ (linesQ q (st.take (st.length - 6))) (st.drop (st.length - 6))).fy) ((curvesQ (linesQ q (st.take (st.length - 6))) (st.drop (st.length - 6))).io) v13 (((curvesQ (linesQ q (st.take (st.length - 6))) (st.drop (st.length - 6))).bx).isSome) wd) :: slH z (encG (curvesQ (linesQ q (st.take (st.length - 6))) (st.drop (st.length - 6))).out) 77)) := by
 obtain ⟨hMb, hMS, hMt, hMv⟩ := hR
 have hqx0 := nb hB0.x
 have hqy0 := nb hB0.y
 refine enter (n := 112) Tryz.func132 rfl rfl rfl hw ?_
 refine cR ?_
 refine lA rfl ?_
 refine nR ?_
 refine lM rfl ?_
 refine lN rfl ?_
 refine lV (y_fieldAddr fo_95_4 rfl) ?_
 refine lV (y_fieldAddr fo_91_1 rfl) ?_
 refine lV (y_oldLoad1 ld_21 rfl hMb hMS hMt) ?_
 refine lA rfl ?_
 refine nQ ?_
 refine c_seq ?_
 refine cR ?_
 refine lM rfl ?_
 refine lV (y_bin rfl rfl rfl (boolF (by omega))) ?_
 refine nQ ?_
 refine c_false rfl rfl ?_
 refine kR ?_
 refine lA rfl ?_
 refine nR ?_
 refine lM rfl ?_
 refine lV (y_bin rfl rfl rfl (fitI (m := st.length - 6) (by omega) (by omega))) ?_
 refine lA rfl ?_
 refine nQ ?_
 refine c_seq ?_
 refine c_block ?_
 refine c_loop (ι := Nat × QSt × Sv) (φ := fun z => z.1 ≤ st.length - 6 ∧ z.1 % 2 = 0 ∧ linesQ z.2.1 ((st.take (st.length - 6)).drop z.1) = linesQ q (st.take (st.length - 6)) ∧ z.2.1.Bd (M + z.1 * 2147483648) ∧ slOk z.2.2 z.2.1.out.length 7 (encG z.2.1.out) ∧ z.2.1.out.length ≤ q.out.length + z.1) (L' := fun z => [(0, .pointer (some ⟨bH, 0, none⟩)), (1, .pointer (some ⟨bM, 0, none⟩)), (6, .int .i32 (z.1 : Nat)), (7, .int .i32 ((st.length - 6 : Nat) : Int))]) (H' := fun z => (HB bH z.2.2 z.2.1.out.length z.2.1.bx v5 v6 v7 z.2.1.x z.2.1.y z.2.1.fx z.2.1.fy z.2.1.io v13 ((z.2.1.bx).isSome) wd) :: slH z.2.2 (encG z.2.1.out) 77) (fun z => st.length - z.1) (0, q, so) ⟨Nat.zero_le _, rfl, rfl, by simpa using hB0, hok, Nat.le_refl _⟩ ⟨rfl, rfl, rfl, rfl, trivial⟩ (.cons .here .refl) ?_
 intro ⟨k, q1, so1⟩ ⟨hk, hke, hE, hB, hok1, hol⟩
 simp only at hk hke hE hB hok1 hol ⊢
 have hqx := nb hB.x
 have hqy := nb hB.y
 refine c_seq ?_
 refine cR ?_
 refine lM rfl ?_
 refine lV (y_bin rfl rfl rfl (fitI (m := k + 2) (by omega) (by omega))) ?_
 refine lM rfl ?_
 refine lB rfl rfl rfl rfl ?_
 refine nQ ?_
 refine c_cond rfl (fun hc25 => ?_) (fun hc25 => ?_)
 ·have hk2 : k + 2 ≤ st.length - 6 := by simp only [decide_eq_true_eq] at hc25; omega
  obtain ⟨a0, h0⟩ := at_of (l := st) (i := k) (by omega)
  have n0 := at_opd hq h0
  obtain ⟨a1, h1⟩ := at_of (l := st) (i := k + 1) (by omega)
  have n1 := at_opd hq h1
  have hd : (st.take (st.length - 6)).drop k = a0 :: a1 :: (st.take (st.length - 6)).drop (k + 2) := by rw [drop_cons (take_at (by omega) h0), drop_cons (take_at (by omega) h1)]
  refine kQ ?_
  refine c_seq ?_
  refine c_block ?_
  refine cR ?_
  refine lM rfl ?_
  refine lN rfl ?_
  refine lV (y_fieldAddr fo_97_5 rfl) ?_
  refine lV (y_loadN (vs := [_, _]) ld_50 rfl m0 rfl rfl) ?_
  refine l_gives rfl rfl (g_alloc ze_50) rfl ?_
  intro b8 hb8
  refine l_does rfl rfl (g_storeN (vs := [_, _]) (cs' := [_, _]) sz_50 rfl rfl rfl rfl rfl rfl rfl .here) ?_
  intro _ _
  refine nQ ?_
  refine c_seq ?_
  refine c_draw [] mixed rfl ?_
  refine dM 0 rfl rfl ?_
  refine dM 1 rfl rfl ?_
  refine dN 2 rfl rfl ?_
  refine dV 3 rfl (y_fieldAddr fo_95_4 rfl) ?_
  refine dV 4 rfl (y_fieldAddr fo_91_0 rfl) ?_
  refine dV 5 rfl (y_indexArr (j := k) ar_89 rfl rfl (blt513 (by omega))) ?_
  refine dV 6 rfl (y_oldLoad1 ld_41 rfl hMb hMS (hMv (k) _ h0)) ?_
  refine dM 7 rfl rfl ?_
  refine dM 8 rfl rfl ?_
  refine dV 9 rfl (y_bin rfl rfl rfl (fitI (m := k + 1) (by omega) (by omega))) ?_
  refine dN 10 rfl rfl ?_
  refine dV 11 rfl (y_fieldAddr fo_95_4 rfl) ?_
  refine dV 12 rfl (y_fieldAddr fo_91_0 rfl) ?_
  refine dV 13 rfl (y_indexArr (j := k + 1) ar_89 rfl rfl (blt513 (by omega))) ?_
  refine dV 14 rfl (y_oldLoad1 ld_41 rfl hMb hMS (hMv (k + 1) _ h1)) ?_
  refine d_ready (i := 15) (rs := []) (by kernel_rfl) .nil (all_one ?_)
  refine o_call rfl (no_guard rfl) ok_148 rfl rfl (out_one [] (b := (b8, [] ++ (.float .f64 (F q1.x) :: .float .f64 (F q1.y) :: []), 50)) (fun w9 ha_ hb_ => f148_any w9 b8 [] [] 50 q1.x q1.y a0 a1 (F a0) (F a1) (by omega) (by omega) (RF_F (by omega)) (RF_F (by omega)) (by omega) (by omega) hb_)) ?_
  intro _ _
  refine d_end (by kernel_rfl) .nil ?_
  refine qG ?_
  refine lM rfl ?_
  refine lV (y_loadN (vs := [_, _]) ld_50 rfl m0 rfl rfl) ?_
  refine l_call ok_149 rfl rfl (out_tail (A := [_]) (H1 := (HB bH so1 q1.out.length q1.bx v5 v6 v7 q1.x q1.y q1.fx q1.fy q1.io v13 ((q1.bx).isSome) wd) :: slH so1 (encG q1.out) 77) (fun w9 ha_ hb_ => f149_any w9 bH (M + (k + 2) * 2147483648) q1 so1 v5 v6 v7 v13 wd (Nat.lt_of_le_of_lt (show (M + (k + 2) * 2147483648) ≤ M + 60 * 2147483648 by omega) (by omega)) (hB.mono (by omega)) (q1.x + a0) (q1.y + a1) (by omega) (by omega) hok1 (by omega) hb_)) ?_
  intro so_1 hok_1
  have hB_1 := lineA_bd (hB.mono (N := (M + (k + 2) * 2147483648)) (by omega)) (show ((q1.x + a0)).natAbs ≤ _ by omega) (show ((q1.y + a1)).natAbs ≤ _ by omega)
  have hl_1 : (lineA q1 (q1.x + a0) (q1.y + a1)).out.length = q1.out.length + 1 := lineA_len
  refine l_nil ?_
  refine q_block ?_
  refine qG ?_
  refine lM rfl ?_
  refine lV (y_bin rfl rfl rfl (fitI (m := k + 2) (by omega) (by omega))) ?_
  refine lA rfl ?_
  refine l_nil ?_
  exact q_rnd (k + 2, (lineA q1 (q1.x + a0) (q1.y + a1)), so_1) ⟨by simp only; omega, by simp only; omega, by rw [← hE, hd]; rfl, hB_1, hok_1, by simp only; omega⟩ (by simp only; omega) ⟨rfl, rfl, rfl, rfl, trivial⟩ (.cons (.there .here) (.skip .refl))
 ·have hk3 : ¬ k + 2 ≤ st.length - 6 := by simp only [decide_eq_false_iff_not] at hc25; omega
  have hkn : k = st.length - 6 := by omega
  rw [List.drop_of_length_le (by rw [List.length_take]; omega)] at hE
  have hE2 : q1 = linesQ q (st.take (st.length - 6)) := hE
  obtain ⟨a0, h0⟩ := at_of (l := st) (i := k) (by omega)
  have n0 := at_opd hq h0
  obtain ⟨a1, h1⟩ := at_of (l := st) (i := k + 1) (by omega)
  have n1 := at_opd hq h1
  obtain ⟨a2, h2⟩ := at_of (l := st) (i := k + 2) (by omega)
  have n2 := at_opd hq h2
  obtain ⟨a3, h3⟩ := at_of (l := st) (i := k + 3) (by omega)
  have n3 := at_opd hq h3
  obtain ⟨a4, h4⟩ := at_of (l := st) (i := k + 4) (by omega)
  have n4 := at_opd hq h4
  obtain ⟨a5, h5⟩ := at_of (l := st) (i := k + 5) (by omega)
  have n5 := at_opd hq h5
  have hd : st.drop (st.length - 6) = [a0, a1, a2, a3, a4, a5] := by rw [← hkn, drop_cons h0, drop_cons h1, drop_cons h2, drop_cons h3, drop_cons h4, drop_cons h5, List.drop_of_length_le (by omega)]
  refine c_exit ?_
  refine q_then_exit ?_
  refine q_rnd_exit ?_
  refine q_block_exit ?_
  refine qR ?_
  refine lM rfl ?_
  refine lN rfl ?_
  refine lV (y_fieldAddr fo_97_5 rfl) ?_
  refine lV (y_loadN (vs := [_, _]) ld_50 rfl m0 rfl rfl) ?_
  refine l_gives rfl rfl (g_alloc ze_50) rfl ?_
  intro b9 hb9
  refine l_does rfl rfl (g_storeN (vs := [_, _]) (cs' := [_, _]) sz_50 rfl rfl rfl rfl rfl rfl rfl .here) ?_
  intro _ _
  refine nQ ?_
  refine c_seq ?_
  refine c_draw [] mixed rfl ?_
  refine dM 0 rfl rfl ?_
  refine dM 1 rfl rfl ?_
  refine dN 2 rfl rfl ?_
  refine dV 3 rfl (y_fieldAddr fo_95_4 rfl) ?_
  refine dV 4 rfl (y_fieldAddr fo_91_0 rfl) ?_
  refine dV 5 rfl (y_indexArr (j := k) ar_89 rfl rfl (blt513 (by omega))) ?_
  refine dV 6 rfl (y_oldLoad1 ld_41 rfl hMb hMS (hMv (k) _ h0)) ?_
  refine dM 7 rfl rfl ?_
  refine dM 8 rfl rfl ?_
  refine dV 9 rfl (y_bin rfl rfl rfl (fitI (m := k + 1) (by omega) (by omega))) ?_
  refine dN 10 rfl rfl ?_
  refine dV 11 rfl (y_fieldAddr fo_95_4 rfl) ?_
  refine dV 12 rfl (y_fieldAddr fo_91_0 rfl) ?_
  refine dV 13 rfl (y_indexArr (j := k + 1) ar_89 rfl rfl (blt513 (by omega))) ?_
  refine dV 14 rfl (y_oldLoad1 ld_41 rfl hMb hMS (hMv (k + 1) _ h1)) ?_
  refine d_ready (i := 15) (rs := []) (by kernel_rfl) .nil (all_one ?_)
  refine o_call rfl (no_guard rfl) ok_148 rfl rfl (out_one [] (b := (b9, [] ++ (.float .f64 (F q1.x) :: .float .f64 (F q1.y) :: []), 50)) (fun w9 ha_ hb_ => f148_any w9 b9 [] [] 50 q1.x q1.y a0 a1 (F a0) (F a1) (by omega) (by omega) (RF_F (by omega)) (RF_F (by omega)) (by omega) (by omega) hb_)) ?_
  intro _ _
  refine d_end (by kernel_rfl) .nil ?_
  refine qR ?_
  refine lV (y_loadN (vs := [_, _]) ld_50 rfl m0 rfl rfl) ?_
  refine l_gives rfl rfl (g_alloc ze_50) rfl ?_
  intro b10 hb10
  refine l_does rfl rfl (g_storeN (vs := [_, _]) (cs' := [_, _]) sz_50 rfl rfl rfl rfl rfl rfl rfl .here) ?_
  intro _ _
  refine nQ ?_
  refine c_seq ?_
  refine c_draw [] mixed rfl ?_
  refine dM 0 rfl rfl ?_
  refine dM 1 rfl rfl ?_
  refine dV 2 rfl (y_bin rfl rfl rfl (fitI (m := k + 2) (by omega) (by omega))) ?_
  refine dN 3 rfl rfl ?_
  refine dV 4 rfl (y_fieldAddr fo_95_4 rfl) ?_
  refine dV 5 rfl (y_fieldAddr fo_91_0 rfl) ?_
  refine dV 6 rfl (y_indexArr (j := k + 2) ar_89 rfl rfl (blt513 (by omega))) ?_
  refine dV 7 rfl (y_oldLoad1 ld_41 rfl hMb hMS (hMv (k + 2) _ h2)) ?_
  refine dM 8 rfl rfl ?_
  refine dM 9 rfl rfl ?_
  refine dV 10 rfl (y_bin rfl rfl rfl (fitI (m := k + 3) (by omega) (by omega))) ?_
  refine dN 11 rfl rfl ?_
  refine dV 12 rfl (y_fieldAddr fo_95_4 rfl) ?_
  refine dV 13 rfl (y_fieldAddr fo_91_0 rfl) ?_
  refine dV 14 rfl (y_indexArr (j := k + 3) ar_89 rfl rfl (blt513 (by omega))) ?_
  refine dV 15 rfl (y_oldLoad1 ld_41 rfl hMb hMS (hMv (k + 3) _ h3)) ?_
  refine d_ready (i := 16) (rs := []) (by kernel_rfl) .nil (all_one ?_)
  refine o_call rfl (no_guard rfl) ok_148 rfl rfl (out_one [] (b := (b10, [] ++ (.float .f64 (F (q1.x + a0)) :: .float .f64 (F (q1.y + a1)) :: []), 50)) (fun w9 ha_ hb_ => f148_any w9 b10 [] [] 50 (q1.x + a0) (q1.y + a1) a2 a3 (F a2) (F a3) (by omega) (by omega) (RF_F (by omega)) (RF_F (by omega)) (by omega) (by omega) hb_)) ?_
  intro _ _
  refine d_end (by kernel_rfl) .nil ?_
  refine qR ?_
  refine lV (y_loadN (vs := [_, _]) ld_50 rfl m0 rfl rfl) ?_
  refine l_gives rfl rfl (g_alloc ze_50) rfl ?_
  intro b11 hb11
  refine l_does rfl rfl (g_storeN (vs := [_, _]) (cs' := [_, _]) sz_50 rfl rfl rfl rfl rfl rfl rfl .here) ?_
  intro _ _
  refine nQ ?_
  refine c_seq ?_
  refine c_draw [] mixed rfl ?_
  refine dM 0 rfl rfl ?_
  refine dM 1 rfl rfl ?_
  refine dV 2 rfl (y_bin rfl rfl rfl (fitI (m := k + 4) (by omega) (by omega))) ?_
  refine dN 3 rfl rfl ?_
  refine dV 4 rfl (y_fieldAddr fo_95_4 rfl) ?_
  refine dV 5 rfl (y_fieldAddr fo_91_0 rfl) ?_
  refine dV 6 rfl (y_indexArr (j := k + 4) ar_89 rfl rfl (blt513 (by omega))) ?_
  refine dV 7 rfl (y_oldLoad1 ld_41 rfl hMb hMS (hMv (k + 4) _ h4)) ?_
  refine dM 8 rfl rfl ?_
  refine dM 9 rfl rfl ?_
  refine dV 10 rfl (y_bin rfl rfl rfl (fitI (m := k + 5) (by omega) (by omega))) ?_
  refine dN 11 rfl rfl ?_
  refine dV 12 rfl (y_fieldAddr fo_95_4 rfl) ?_
  refine dV 13 rfl (y_fieldAddr fo_91_0 rfl) ?_
  refine dV 14 rfl (y_indexArr (j := k + 5) ar_89 rfl rfl (blt513 (by omega))) ?_
  refine dV 15 rfl (y_oldLoad1 ld_41 rfl hMb hMS (hMv (k + 5) _ h5)) ?_
  refine d_ready (i := 16) (rs := []) (by kernel_rfl) .nil (all_one ?_)
  refine o_call rfl (no_guard rfl) ok_148 rfl rfl (out_one [] (b := (b11, [] ++ (.float .f64 (F ((q1.x + a0) + a2)) :: .float .f64 (F ((q1.y + a1) + a3)) :: []), 50)) (fun w9 ha_ hb_ => f148_any w9 b11 [] [] 50 ((q1.x + a0) + a2) ((q1.y + a1) + a3) a4 a5 (F a4) (F a5) (by omega) (by omega) (RF_F (by omega)) (RF_F (by omega)) (by omega) (by omega) hb_)) ?_
  intro _ _
  refine d_end (by kernel_rfl) .nil ?_
  refine qR ?_
  refine lM rfl ?_
  refine lV (y_loadN (vs := [_, _]) ld_50 rfl m2 rfl rfl) ?_
  refine lV (y_loadN (vs := [_, _]) ld_50 rfl m1 rfl rfl) ?_
  refine lV (y_loadN (vs := [_, _]) ld_50 rfl m0 rfl rfl) ?_
  refine l_call ok_151 rfl rfl (out_tail (A := [_, _, _]) (H1 := (HB bH so1 q1.out.length q1.bx v5 v6 v7 q1.x q1.y q1.fx q1.fy q1.io v13 ((q1.bx).isSome) wd) :: slH so1 (encG q1.out) 77) (fun w9 ha_ hb_ => f151_any w9 bH (M + (k + 6) * 2147483648) q1 so1 v5 v6 v7 v13 wd (Nat.lt_of_le_of_lt (show (M + (k + 6) * 2147483648) ≤ M + 60 * 2147483648 by omega) (by omega)) (hB.mono (by omega)) (q1.x + a0) (q1.y + a1) ((q1.x + a0) + a2) ((q1.y + a1) + a3) (((q1.x + a0) + a2) + a4) (((q1.y + a1) + a3) + a5) (by omega) (by omega) (by omega) (by omega) (by omega) (by omega) hok1 (by omega) hb_)) ?_
  intro so_1 hok_1
  have hB_1 := curveA_bd (hB.mono (N := (M + (k + 6) * 2147483648)) (by omega)) (show ((q1.x + a0)).natAbs ≤ _ by omega) (show ((q1.y + a1)).natAbs ≤ _ by omega) (show (((q1.x + a0) + a2)).natAbs ≤ _ by omega) (show (((q1.y + a1) + a3)).natAbs ≤ _ by omega) (show ((((q1.x + a0) + a2) + a4)).natAbs ≤ _ by omega) (show ((((q1.y + a1) + a3) + a5)).natAbs ≤ _ by omega)
  have hl_1 : (curveA q1 (q1.x + a0) (q1.y + a1) ((q1.x + a0) + a2) ((q1.y + a1) + a3) (((q1.x + a0) + a2) + a4) (((q1.y + a1) + a3) + a5)).out.length = q1.out.length + 1 := curveA_len
  refine nR ?_
  refine lA rfl ?_
  refine nQ ?_
  refine c_ret ?_
  have hE3 : (curveA q1 (q1.x + a0) (q1.y + a1) ((q1.x + a0) + a2) ((q1.y + a1) + a3) (((q1.x + a0) + a2) + a4) (((q1.y + a1) + a3) + a5)) = curvesQ (linesQ q (st.take (st.length - 6))) (st.drop (st.length - 6)) := by rw [hd, ← hE2]; rfl
  rw [← hE3]
  exact body_ret (rs := [.tmp 4]) rfl (vs := [.nilIface]) ⟨rfl, trivial⟩ (out_end so_1 hok_1 rfl (.cons (.there (.there (.there .here))) (.skip (.skip (.skip .refl))))) _ (.inr rfl)
end Go.Proofs.YtbepljmeflndkaaGreatDoor
namespace Go.Proofs.YtbepljmeflndkaaGreatDoor
open Go.Eng Go.Fl
structure MOk (Mc : List Value) (lo gl ins : Value) (fr : List Value) (st : List Int) : Prop where
  len : Mc.length = 593
  loc : Mc[0]? = some lo
  glo : Mc[1]? = some gl
  cod : Mc[2]? = some ins
  frm : ∀ i v, fr[i]? = some v → Mc[3 + i * 1]? = some v
  top : Mc[13]? = some (.int .i32 (fr.length : Nat))
  ops : ∀ i q, st[i]? = some q → Mc[14 + i * 1]? = some (.float .f64 (F q))
  tp : Mc[527]? = some (.int .i32 (st.length : Nat))
  ctx : Mc[592]? = some (.int .u32 2)
  frl : fr.length ≤ 10
  stl : st.length ≤ 513
theorem set_same {l : List Value} {i : Nat} {v : Value} (h : i < l.length) : (l.set i v)[i]? = some v := by rw [List.getElem?_set_self (by simpa using h)]
theorem set_other {l : List Value} {i j : Nat} {v x : Value} (h : i ≠ j) (hj : l[j]? = some x) : (l.set i v)[j]? = some x := by rw [List.getElem?_set_ne h]; exact hj
theorem at_lt {α : Type} {l : List α} {i : Nat} {a : α} (h : l[i]? = some a) : i < l.length := (List.getElem?_eq_some_iff.1 h).1
theorem blt_of {i n : Nat} (h : i < n) : Nat.blt i n = true := Nat.ble_eq_true_of_le h
section
variable {Mc : List Value} {lo gl ins : Value} {fr : List Value} {st : List Int}
theorem MOk.setIns (h : MOk Mc lo gl ins fr st) (v : Value) : MOk (Mc.set 2 v) lo gl v fr st := by
  have hl := h.len
  refine ⟨by simpa using hl, set_other (by omega) h.loc, set_other (by omega) h.glo, set_same (by omega), fun i v hv => set_other (by omega) (h.frm i v hv), set_other (by omega) h.top, fun i q hq => set_other (by omega) (h.ops i q hq), set_other (by omega) h.tp, set_other (by omega) h.ctx, h.frl, h.stl⟩
theorem MOk.setTp (h : MOk Mc lo gl ins fr st) {n : Nat} (hn : n ≤ st.length) : MOk (Mc.set 527 (.int .i32 (n : Nat))) lo gl ins fr (st.take n) := by
  have hl := h.len
  have h5 := h.stl
  have hf := h.frl
  have e : (st.take n).length = n := by rw [List.length_take]; omega
  refine ⟨by simpa using hl, set_other (by omega) h.loc, set_other (by omega) h.glo, set_other (by omega) h.cod, fun i v hv => set_other (by have := at_lt hv; omega) (h.frm i v hv), set_other (by omega) h.top, fun i q hq => ?_, by rw [e]; exact set_same (by omega), set_other (by omega) h.ctx, h.frl, by omega⟩
  have hi := at_lt hq
  rw [e] at hi
  exact set_other (by omega) (h.ops i q (by rw [List.getElem?_take, if_pos hi] at hq; exact hq))
theorem MOk.clear (h : MOk Mc lo gl ins fr st) : MOk (Mc.set 527 (.int .i32 0)) lo gl ins fr [] := h.setTp (n := 0) (Nat.zero_le _)
theorem MOk.push (h : MOk Mc lo gl ins fr st) (q : Int) (hn : st.length < 513) : MOk ((Mc.set (14 + st.length * 1) (.float .f64 (F q))).set 527 (.int .i32 ((st.length + 1 : Nat) : Int))) lo gl ins fr (st ++ [q]) := by
  have hl := h.len
  have hf := h.frl
  have e : (st ++ [q]).length = st.length + 1 := by simp
  refine ⟨by simpa using hl, set_other (by omega) (set_other (by omega) h.loc), set_other (by omega) (set_other (by omega) h.glo), set_other (by omega) (set_other (by omega) h.cod), fun i v hv => set_other (by have := at_lt hv; omega) (set_other (by have := at_lt hv; omega) (h.frm i v hv)), set_other (by omega) (set_other (by omega) h.top), fun i x hx => ?_, by rw [e]; exact set_same (by rw [List.length_set]; omega), set_other (by omega) (set_other (by omega) h.ctx), h.frl, by omega⟩
  have hi := at_lt hx
  rw [e] at hi
  refine set_other (by omega) ?_
  by_cases hc : i = st.length
  · subst hc
    rw [List.getElem?_append_right (Nat.le_refl _), Nat.sub_self] at hx
    injection hx with hx; subst hx
    exact set_same (by omega)
  · rw [List.getElem?_append_left (by omega)] at hx
    exact set_other (by omega) (h.ops i x hx)
theorem MOk.pushFr (h : MOk Mc lo gl ins fr st) (v : Value) (hn : fr.length < 10) : MOk ((Mc.set (3 + fr.length * 1) v).set 13 (.int .i32 ((fr.length + 1 : Nat) : Int))) lo gl ins (fr ++ [v]) st := by
  have hl := h.len
  have hs := h.stl
  have e : (fr ++ [v]).length = fr.length + 1 := by simp
  refine ⟨by simpa using hl, set_other (by omega) (set_other (by omega) h.loc), set_other (by omega) (set_other (by omega) h.glo), set_other (by omega) (set_other (by omega) h.cod), fun i x hx => ?_, by rw [e]; exact set_same (by rw [List.length_set]; omega), fun i x hx => set_other (by omega) (set_other (by omega) (h.ops i x hx)), set_other (by omega) (set_other (by omega) h.tp), set_other (by omega) (set_other (by omega) h.ctx), by omega, h.stl⟩
  have hi := at_lt hx
  rw [e] at hi
  refine set_other (by omega) ?_
  by_cases hc : i = fr.length
  · subst hc
    rw [List.getElem?_append_right (Nat.le_refl _), Nat.sub_self] at hx
    injection hx with hx; subst hx
    exact set_same (by omega)
  · rw [List.getElem?_append_left (by omega)] at hx
    exact set_other (by omega) (h.frm i x hx)
theorem MOk.popFr {v : Value} (h : MOk Mc lo gl ins (fr ++ [v]) st) : MOk (Mc.set 13 (.int .i32 (fr.length : Nat))) lo gl ins fr st := by
  have hl := h.len
  have hf := h.frl
  rw [List.length_append, List.length_singleton] at hf
  refine ⟨by simpa using hl, set_other (by omega) h.loc, set_other (by omega) h.glo, set_other (by omega) h.cod, fun i x hx => set_other (by have := at_lt hx; omega) (h.frm i x (by rw [List.getElem?_append_left (at_lt hx)]; exact hx)), set_same (by omega), fun i x hx => set_other (by omega) (h.ops i x hx), set_other (by omega) h.tp, set_other (by omega) h.ctx, by omega, h.stl⟩
theorem MOk.pop {q : Int} (h : MOk Mc lo gl ins fr (st ++ [q])) : MOk (Mc.set 527 (.int .i32 (st.length : Nat))) lo gl ins fr st := by
  have h1 := h.setTp (n := st.length) (by simp)
  rwa [List.take_left'  rfl] at h1
theorem RdM_own {w0 w : World} {S : List Nat} {bM : Nat} {H1 : Heap} (h : Hp w0 S ((bM, Mc, 95) :: H1) w) (hm : MOk Mc lo gl ins fr st) : RdM w (H1.map (·.1)) bM st :=
  ⟨h.lt (.head _), not_ids h, by rw [h.cell (.head _)]; exact hm.tp, fun i q hq => by rw [h.cell (.head _)]; exact hm.ops i q hq⟩
end
/-- One element that a slice has, in memory that was there and is not among S. -/
def RdE (w : World) (S : List Nat) (A : Option Addr) (j : Nat) (v : Value) : Prop := ∃ p, A = some p ∧ p.block < w.heap.size ∧ p.block ∉ S ∧ w.cell? (p.add (j * 1)) = some v
theorem RdE.into {w0 w : World} {S : List Nat} {H : Heap} {A : Option Addr} {j : Nat} {v : Value} (h : RdE w0 S A j v) (hw : Hp w0 S H w) : RdE w (H.map (·.1)) A j v := by
  obtain ⟨p, rfl, hb, hS, hc⟩ := h
  refine ⟨p, rfl, Nat.lt_of_lt_of_le hb hw.size, ?_, ?_⟩
  · intro hm
    obtain ⟨⟨g, cs, e⟩, hg, he⟩ := List.mem_map.1 hm
    simp only at he
    rcases (hw.blk g cs e hg).2 with h1 | h1
    · exact hS (he ▸ h1)
    · omega
  · rw [hw.oldCell (by rw [block_add]; exact hb) (by rw [block_add]; exact hS)]
    exact hc
theorem y_sliceLoK {P : Program} {n : Nat} {D : List Deferred} {w0 : World} {S : List Nat} {L : Slots} {H : Heap} {d : Option Tmp} {ty : TypeId} {pos : String} {af : Array Edge} {gd : Option (Nat × Bool)} {t sz : Nat} {x lo : Operand} {p : Addr} {k : IntKind} {m cap i : Nat} (hs : elSize P t = some sz) (hx : ev L x = some (.slice (some p) m cap)) (hlo : ev L lo = some (.int k (i : Int))) (h1 : i ≤ m) (h2 : m ≤ cap) :
    Go.Eng.Yields P n D w0 S ⟨d, .slice t x (some lo) none none, ty, pos, af, gd⟩ L H (.slice (some (if cap = i then p else p.add (i * sz))) (m - i) (cap - i)) := by
  intro a w ha hw
  unfold elSize at hs
  split at hs
  · rename_i e hu
    cases hi' : P.info? e with
    | none => rw [hi'] at hs; cases hs
    | some inf =>
      rw [hi'] at hs
      simp at hs
      subst hs
      have hb2 : (Instr.sliceBound (.int k (i : Int)) m .sliceB).run P w = .ok i w := by
        simp [Instr.sliceBound, asIntOf, h1]
      by_cases hc : cap = i
      · simp [execOp, ha.ev_eq hx, ha.ev_eq hlo, Instr.sliceAt, Instr.slice, run_underlying hu, Instr.sliceBounds, hb2, sizeOf, typeInfo, hi', hc]
      · simp [execOp, ha.ev_eq hx, ha.ev_eq hlo, Instr.sliceAt, Instr.slice, run_underlying hu, Instr.sliceBounds, hb2, sizeOf, typeInfo, hi', hc]
  · cases hs
theorem y_shr {P : Program} {n : Nat} {D : List Deferred} {w0 : World} {S : List Nat} {L : Slots} {H : Heap} {d : Option Tmp} {ty : TypeId} {pos : String} {af : Array Edge} {gd : Option (Nat × Bool)} {t u : TypeId} {x y : Operand} {k k2 : IntKind} {i : Int} {s : Nat} {v' : Value} (hx : ev L x = some (.int k i)) (hy : ev L y = some (.int k2 (s : Int))) (hs : s ≤ k.bits) (hv' : Value.int k (i.fdiv (2 ^ s)) = v') :
    Go.Eng.Yields P n D w0 S ⟨d, .binOp .shr t x y u, ty, pos, af, gd⟩ L H v' := by
  intro a w ha hw
  subst hv'
  have h0 : ¬ ((s : Int) < 0) := by omega
  have h1 : min s k.bits = s := by omega
  simp [execOp, ha.ev_eq hx, ha.ev_eq hy, eqGuard_at_int, binOp, Op.shift, h0, h1]
theorem shrI {n : Nat} : Value.int .i32 ((n : Int).fdiv (2 ^ 3)) = .int .i32 ((n / 8 : Nat) : Int) := by
  have h : ((n : Nat) : Int).fdiv (2 ^ 3) = ((n / 8 : Nat) : Int) := by
    rw [Int.fdiv_eq_ediv_of_nonneg _ (by decide)]; omega
  rw [h]
end Go.Proofs.YtbepljmeflndkaaGreatDoor
namespace Go.Proofs.YtbepljmeflndkaaGreatDoor
open Go.Eng Go.Fl
set_option maxRecDepth 100000
attribute [local irreducible] IntKind.wrap Int.tdiv Int.tmod Int.emod maxLen F G
theorem f141_any (w : World) (bM : Nat) (Mc : List Value) (lo gl ins : Value) (fr : List Value) (st : List Int) (hm : MOk Mc lo gl ins fr st) (hw : Hp w [bM] [(bM, Mc, 95)] w) : Calls Tryz.prog 141 [.pointer (some ⟨bM, 14, none⟩)].toArray w (Out w [bM] (fun z : Unit => True) (fun z => .tuple #[]) (fun z => [(bM, (Mc.set 527 (.int .i32 0)), 95)])) := by
 have hml := hm.len
 refine enter (n := 5) Tryz.func141 rfl rfl rfl hw ?_
 refine c_region ?_
 refine lM rfl ?_
 refine lN rfl ?_
 refine lV (y_fieldAddr fo_91_1 rfl) ?_
 refine l_does rfl rfl (g_store1 (cs' := (Mc.set 527 (.int .i32 0))) sz_21 rfl rfl (by first | rfl | assumption) (blt_of (by first | omega | (simp only [List.length_set]; omega))) (by first | rfl | assumption) rfl .here) ?_
 intro _ _
 refine l_nil ?_
 exact body_ret (rs := []) rfl (vs := []) trivial (out_end () trivial rfl .refl) _ (.inl rfl)
theorem f143_any (w : World) (bM : Nat) (Mc : List Value) (lo gl ins : Value) (fr : List Value) (s : List Int) (q : Int) (hm : MOk Mc lo gl ins fr (s ++ [q])) (hw : Hp w [bM] [(bM, Mc, 95)] w) : Calls Tryz.prog 143 [.pointer (some ⟨bM, 14, none⟩)].toArray w (Out w [bM] (fun z : Unit => True) (fun z => .float .f64 (F q)) (fun z => [(bM, (Mc.set 527 (.int .i32 (s.length : Nat))), 95)])) := by
 have hml := hm.len
 have hms := hm.stl
 rw [List.length_append, List.length_singleton] at hms
 have hlast : (s ++ [q])[s.length]? = some q := by rw [List.getElem?_append_right (Nat.le_refl _), Nat.sub_self]; rfl
 refine enter (n := 19) Tryz.func143 rfl rfl rfl hw ?_
 refine cR ?_
 refine lA rfl ?_
 refine nR ?_
 refine lM rfl ?_
 refine lN rfl ?_
 refine lV (y_fieldAddr fo_91_1 rfl) ?_
 refine lV (y_load1 ld_21 rfl m0 hm.tp) ?_
 refine lV (y_bin rfl rfl rfl (fitI (m := s.length) (by rw [List.length_append, List.length_singleton]; omega) (by omega))) ?_
 refine lN rfl ?_
 refine lV (y_fieldAddr fo_91_1 rfl) ?_
 refine l_does rfl rfl (g_store1 (cs' := (Mc.set 527 (.int .i32 (s.length : Nat)))) sz_21 rfl rfl (by first | rfl | assumption) (blt_of (by first | omega | (simp only [List.length_set]; omega))) (by first | rfl | assumption) rfl .here) ?_
 intro _ _
 refine nQ ?_
 refine c_seq ?_
 refine c_drawH mixed rfl ?_
 refine dM 0 rfl rfl ?_
 refine dM 1 rfl rfl ?_
 refine dN 2 rfl rfl ?_
 refine dV 3 rfl (y_fieldAddr fo_91_1 rfl) ?_
 refine dV 4 rfl (y_load1 ld_21 rfl m0 (set_same (by first | omega | (simp only [List.length_set]; omega)))) ?_
 refine dN 5 rfl rfl ?_
 refine dV 6 rfl (y_fieldAddr fo_91_0 rfl) ?_
 refine dV 7 rfl (y_indexArr (j := s.length) ar_89 rfl rfl (blt_of (by omega))) ?_
 refine dV 8 rfl (y_load1 ld_41 rfl m0 (set_other (by omega) (hm.ops _ _ hlast))) ?_
 refine dV 9 rfl (y_assign rfl) ?_
 refine d_end (by kernel_rfl) (.cons .here .nil) ?_
 refine q_then ?_
 refine c_ret ?_
 exact body_ret (rs := [.tmp 2]) rfl (vs := [.float .f64 (F q)]) ⟨rfl, trivial⟩ (out_end () trivial rfl .refl) _ (.inr rfl)
set_option maxHeartbeats 2000000 in
theorem f117_any (w : World) (bM : Nat) (Mc : List Value) (lo gl ins v : Value) (fr : List Value) (st : List Int) (hv1 : v.cells = #[v]) (hv2 : v.oneCell' = true) (hm : MOk Mc lo gl ins (fr ++ [v]) st) (hw : Hp w [bM] [(bM, Mc, 95)] w) : Calls Tryz.prog 117 [.pointer (some ⟨bM, 0, none⟩)].toArray w (Out w [bM] (fun z : Unit => True) (fun z => .nilIface) (fun z => [(bM, ((Mc.set 13 (.int .i32 (fr.length : Nat))).set 2 v), 95)])) := by
 have hml := hm.len
 have hmf := hm.frl
 rw [List.length_append, List.length_singleton] at hmf
 have hlast : (fr ++ [v])[fr.length]? = some v := by rw [List.getElem?_append_right (Nat.le_refl _), Nat.sub_self]; rfl
 refine enter (n := 33) Tryz.func117 rfl rfl rfl hw ?_
 refine cR ?_
 refine lA rfl ?_
 refine nQ ?_
 refine c_seq ?_
 refine cR ?_
 refine lM rfl ?_
 refine lN rfl ?_
 refine lV (y_fieldAddr fo_95_3 rfl) ?_
 refine lV (y_fieldAddr fo_88_1 rfl) ?_
 refine lV (y_load1 ld_21 rfl m0 hm.top) ?_
 refine lV (y_bin rfl rfl rfl (boolF (by rw [List.length_append, List.length_singleton]; omega))) ?_
 refine nQ ?_
 refine c_false rfl rfl ?_
 refine kR ?_
 refine lM rfl ?_
 refine lN rfl ?_
 refine lV (y_fieldAddr fo_95_3 rfl) ?_
 refine lV (y_fieldAddr fo_88_1 rfl) ?_
 refine lV (y_load1 ld_21 rfl m0 hm.top) ?_
 refine lV (y_bin rfl rfl rfl (fitI (m := fr.length) (by rw [List.length_append, List.length_singleton]; omega) (by omega))) ?_
 refine lN rfl ?_
 refine lV (y_fieldAddr fo_95_3 rfl) ?_
 refine lV (y_fieldAddr fo_88_1 rfl) ?_
 refine l_does rfl rfl (g_store1 (cs' := (Mc.set 13 (.int .i32 (fr.length : Nat)))) sz_21 rfl rfl (by first | rfl | assumption) (blt_of (by first | omega | (simp only [List.length_set]; omega))) (by first | rfl | assumption) rfl .here) ?_
 intro _ _
 refine nQ ?_
 refine c_seq ?_
 refine c_draw [] mixed rfl ?_
 refine dM 0 rfl rfl ?_
 refine dM 1 rfl rfl ?_
 refine dM 2 rfl rfl ?_
 refine dN 3 rfl rfl ?_
 refine dV 4 rfl (y_fieldAddr fo_95_3 rfl) ?_
 refine dV 5 rfl (y_fieldAddr fo_88_1 rfl) ?_
 refine dN 7 rfl rfl ?_
 refine dV 8 rfl (y_fieldAddr fo_95_3 rfl) ?_
 refine dV 9 rfl (y_fieldAddr fo_88_0 rfl) ?_
 refine d_ready (i := 6) (rs := []) (by kernel_rfl) .nil (all_one ?_)
 refine o_gives rfl rfl rfl (gy (y_load1 ld_21 rfl m0 (set_same (by first | omega | (simp only [List.length_set]; omega))))) rfl ?_
 intro _ _
 refine dV 10 rfl (y_indexArr (j := fr.length) ar_87 rfl rfl (blt_of (by omega))) ?_
 refine d_ready (i := 11) (rs := []) (by kernel_rfl) .nil (all_one ?_)
 refine o_gives rfl rfl rfl (gy (y_load1 ld_22 rfl m0 (set_other (by omega) (hm.frm _ _ hlast)))) rfl ?_
 intro _ _
 refine dN 12 rfl rfl ?_
 refine dV 13 rfl (y_fieldAddr fo_95_2 rfl) ?_
 refine d_ready (i := 14) (rs := []) (by kernel_rfl) .nil (all_one ?_)
 refine o_does rfl rfl rfl (g_store1 (cs' := ((Mc.set 13 (.int .i32 (fr.length : Nat))).set 2 v)) sz_22 rfl rfl (by first | rfl | assumption) (blt_of (by first | omega | (simp only [List.length_set]; omega))) (by first | rfl | assumption) rfl .here) ?_
 intro _ _
 refine d_end (by kernel_rfl) .nil ?_
 refine qR ?_
 refine lA rfl ?_
 refine nQ ?_
 refine c_ret ?_
 exact body_ret (rs := [.tmp 2]) rfl (vs := [.nilIface]) ⟨rfl, trivial⟩ (out_end () trivial rfl .refl) _ (.inr rfl)
theorem f154_any (w : World) (n : Nat) (hn : n ≤ 300) : Calls Tryz.prog 154 [.int .i64 (n : Int)].toArray w (Out w [] (fun z : Unit => True) (fun z => .int .i32 107) (fun z => [])) := by
 refine enter (n := 7) Tryz.func154 rfl rfl rfl (Hp.refl w) ?_
 refine cR ?_
 refine lA rfl ?_
 refine nQ ?_
 refine c_seq ?_
 refine cR ?_
 refine lM rfl ?_
 refine lV (y_bin rfl rfl rfl (boolT (by omega))) ?_
 refine nQ ?_
 refine c_true rfl rfl ?_
 refine cR ?_
 refine lA rfl ?_
 refine nQ ?_
 refine c_ret ?_
 refine q_then_ret ?_
 exact body_ret (rs := [.tmp 2]) rfl (vs := [.int .i32 107]) ⟨rfl, trivial⟩ (out_end () trivial rfl .nil) _ (.inr rfl)
theorem boolF_eq {a b : Int} (h : a ≠ b) : Value.bool (a == b) = .bool false := by rw [beq_eq_false_iff_ne.2 h]
set_option maxHeartbeats 4000000 in
theorem f144_any (w : World) (bM : Nat) (Mc : List Value) (ins : Value) (fr : List Value) (st : List Int) (Alo Agl Ai : Option Addr) (cLo cGl nlo ngl m ci : Nat) (loc : Bool) (k : Int) (j : Nat) (hk : k + 107 = j) (hE : RdE w [bM] (bif loc then Alo else Agl) j (.slice Ai m ci)) (hjl : j < (bif loc then nlo else ngl)) (hl3 : (bif loc then nlo else ngl) ≤ 300) (hf : fr.length < 10) (hi1 : ins.cells = #[ins]) (hi2 : ins.oneCell' = true) (hm : MOk Mc (.slice Alo nlo cLo) (.slice Agl ngl cGl) ins fr st) (hw : Hp w [bM] [(bM, Mc, 95)] w) : Calls Tryz.prog 144 [.pointer (some ⟨bM, 0, none⟩), .int .i32 k, .bool loc].toArray w (Out w [bM] (fun z : Unit => True) (fun z => .nilIface) (fun z => [(bM, (((Mc.set (3 + fr.length * 1) ins).set 13 (.int .i32 ((fr.length + 1 : Nat) : Int))).set 2 (.slice Ai m ci)), 95)])) := by
 have hml := hm.len
 have hmf := hm.frl
 refine enter (n := 74) Tryz.func144 rfl rfl rfl hw ?_
 refine cR ?_
 refine lA rfl ?_
 refine nR ?_
 refine lM rfl ?_
 refine lN rfl ?_
 refine lV (y_fieldAddr fo_95_1 rfl) ?_
 refine lV (y_load1 ld_23 rfl m0 hm.glo) ?_
 refine lA rfl ?_
 refine nQ ?_
 refine c_seq ?_
 refine cR ?_
 refine lM rfl ?_
 refine nQ ?_
 refine c_cut (ι := Option Addr × Nat × Nat) (φ := fun z => z.1 = (bif loc then Alo else Agl) ∧ z.2.2 = (bif loc then nlo else ngl)) (L' := fun z => [(0, .pointer (some ⟨bM, 0, none⟩)), (1, .int .i32 k), (2, .bool loc), (7, .slice z.1 z.2.2 z.2.1)]) (H' := fun _ => [(bM, Mc, 95)]) ?_ ?_
 ·refine c_cond rfl (fun hc12 => ?_) (fun hc12 => ?_)
  ·refine c_region ?_
   refine lM rfl ?_
   refine lN rfl ?_
   refine lV (y_fieldAddr fo_95_0 rfl) ?_
   refine lV (y_load1 ld_23 rfl m0 hm.loc) ?_
   refine lA rfl ?_
   refine l_nil ?_
   exact q_cut (Alo, cLo, nlo) ⟨by rw [hc12]; rfl, by rw [hc12]; rfl⟩ ⟨rfl, rfl, rfl, rfl, trivial⟩ (.cons .here .nil)
  ·refine c_skip ?_
   exact q_cut (Agl, cGl, ngl) ⟨by rw [hc12]; rfl, by rw [hc12]; rfl⟩ ⟨rfl, rfl, rfl, rfl, trivial⟩ (.cons .here .nil)
 intro ⟨Al, cAl, ln⟩ ⟨hAl, hln⟩
 simp only at hAl hln ⊢
 obtain ⟨pL, hpL, hpb, hpS, hcell⟩ := hE
 rw [← hAl] at hpL
 subst hpL
 rw [← hln] at hjl hl3
 refine q_then ?_
 refine c_seq ?_
 refine cR ?_
 refine lM rfl ?_
 refine lN rfl ?_
 refine lV (y_fieldAddr fo_95_6 rfl) ?_
 refine lV (y_load1 ld_93 rfl m0 hm.ctx) ?_
 refine lV (y_bin rfl rfl rfl (by rfl)) ?_
 refine nQ ?_
 refine c_true rfl rfl ?_
 refine c_region ?_
 refine lM rfl ?_
 refine lM rfl ?_
 refine lV (y_len sl_23 rfl) ?_
 refine l_call ok_154 rfl rfl (out_keep (fun w1 => f154_any w1 ln hl3)) ?_
 intro _ _
 refine lV (y_bin rfl rfl rfl (fitI (m := j) (by omega) (by omega))) ?_
 refine lA rfl ?_
 refine nQ ?_
 refine c_seq ?_
 refine cR ?_
 refine lM rfl ?_
 refine lV (y_bin rfl rfl rfl (boolF (by omega))) ?_
 refine lM rfl ?_
 refine l_want rfl rfl ?_
 refine lM rfl ?_
 refine l_want rfl rfl ?_
 refine lV (y_conv cv_21_3 rfl (fitN (m := j) rfl (by omega))) ?_
 refine l_want rfl rfl ?_
 refine lM rfl ?_
 refine l_want rfl rfl ?_
 refine lV (y_len sl_23 rfl) ?_
 refine l_want rfl rfl ?_
 refine lV (y_bin rfl rfl rfl (boolF (by omega))) ?_
 refine lV (y_pick rfl rfl rfl) ?_
 refine nQ ?_
 refine c_false rfl rfl ?_
 refine kQ ?_
 refine c_seq ?_
 refine cR ?_
 refine lM rfl ?_
 refine lN rfl ?_
 refine lV (y_fieldAddr fo_95_3 rfl) ?_
 refine lV (y_fieldAddr fo_88_1 rfl) ?_
 refine lV (y_load1 ld_21 rfl m0 hm.top) ?_
 refine lV (y_bin rfl rfl rfl (boolF_eq (by omega))) ?_
 refine nQ ?_
 refine c_false rfl rfl ?_
 refine kQ ?_
 refine c_seq ?_
 refine c_draw [] mixed rfl ?_
 refine dM 0 rfl rfl ?_
 refine dM 1 rfl rfl ?_
 refine dN 2 rfl rfl ?_
 refine dV 3 rfl (y_fieldAddr fo_95_3 rfl) ?_
 refine dV 4 rfl (y_fieldAddr fo_88_1 rfl) ?_
 refine dM 6 rfl rfl ?_
 refine dN 7 rfl rfl ?_
 refine dV 8 rfl (y_fieldAddr fo_95_2 rfl) ?_
 refine dN 10 rfl rfl ?_
 refine dV 11 rfl (y_fieldAddr fo_95_3 rfl) ?_
 refine dV 12 rfl (y_fieldAddr fo_88_0 rfl) ?_
 refine d_ready (i := 5) (rs := [9]) (by kernel_rfl) .nil (all_cons ?_ (all_one ?_))
 ·refine o_gives rfl rfl rfl (gy (y_load1 ld_21 rfl m0 hm.top)) rfl ?_
  intro _ _
  refine d_ready (i := 9) (rs := []) (by kernel_rfl) .nil (all_one ?_)
  refine o_gives rfl rfl rfl (gy (y_load1 ld_22 rfl m0 hm.cod)) rfl ?_
  intro _ _
  refine dV 13 rfl (y_indexArr (j := fr.length) ar_87 rfl rfl (blt_of (by omega))) ?_
  refine d_ready (i := 14) (rs := []) (by kernel_rfl) .nil (all_one ?_)
  refine o_does rfl rfl rfl (g_store1 (cs' := (Mc.set (3 + fr.length * 1) ins)) sz_22 rfl rfl (by first | rfl | assumption) (blt_of (by first | omega | (simp only [List.length_set]; omega))) (by first | rfl | assumption) rfl .here) ?_
  intro _ _
  refine d_end (by kernel_rfl) .nil ?_
  refine qR ?_
  refine lM rfl ?_
  refine lN rfl ?_
  refine lV (y_fieldAddr fo_95_3 rfl) ?_
  refine lV (y_fieldAddr fo_88_1 rfl) ?_
  refine lV (y_load1 ld_21 rfl m0 (set_other (by omega) hm.top)) ?_
  refine lV (y_bin rfl rfl rfl (fitI (m := fr.length + 1) (by omega) (by omega))) ?_
  refine lN rfl ?_
  refine lV (y_fieldAddr fo_95_3 rfl) ?_
  refine lV (y_fieldAddr fo_88_1 rfl) ?_
  refine l_does rfl rfl (g_store1 (cs' := ((Mc.set (3 + fr.length * 1) ins).set 13 (.int .i32 ((fr.length + 1 : Nat) : Int)))) sz_21 rfl rfl (by first | rfl | assumption) (blt_of (by first | omega | (simp only [List.length_set]; omega))) (by first | rfl | assumption) rfl .here) ?_
  intro _ _
  refine nR ?_
  refine lM rfl ?_
  refine lM rfl ?_
  refine lM rfl ?_
  refine lV (y_indexAddr (j := j) es_23 rfl rfl hjl) ?_
  refine lV (y_oldLoad1 ld_22 rfl (by rw [block_add]; exact hpb) (by rw [block_add]; exact hpS) hcell) ?_
  refine lN rfl ?_
  refine lV (y_fieldAddr fo_95_2 rfl) ?_
  refine l_does rfl rfl (g_store1 (cs' := (((Mc.set (3 + fr.length * 1) ins).set 13 (.int .i32 ((fr.length + 1 : Nat) : Int))).set 2 (.slice Ai m ci))) sz_22 rfl rfl (by first | rfl | assumption) (blt_of (by first | omega | (simp only [List.length_set]; omega))) (by first | rfl | assumption) rfl .here) ?_
  intro _ _
  refine nR ?_
  refine lA rfl ?_
  refine nQ ?_
  refine c_ret ?_
  exact body_ret (rs := [.tmp 6]) rfl (vs := [.nilIface]) ⟨rfl, trivial⟩ (out_end () trivial rfl .refl) _ (.inr rfl)
 ·refine o_gives rfl rfl rfl (gy (y_load1 ld_22 rfl m0 hm.cod)) rfl ?_
  intro _ _
  refine d_ready (i := 5) (rs := []) (by kernel_rfl) .nil (all_one ?_)
  refine o_gives rfl rfl rfl (gy (y_load1 ld_21 rfl m0 hm.top)) rfl ?_
  intro _ _
  refine dV 13 rfl (y_indexArr (j := fr.length) ar_87 rfl rfl (blt_of (by omega))) ?_
  refine d_ready (i := 14) (rs := []) (by kernel_rfl) .nil (all_one ?_)
  refine o_does rfl rfl rfl (g_store1 (cs' := (Mc.set (3 + fr.length * 1) ins)) sz_22 rfl rfl (by first | rfl | assumption) (blt_of (by first | omega | (simp only [List.length_set]; omega))) (by first | rfl | assumption) rfl .here) ?_
  intro _ _
  refine d_end (by kernel_rfl) .nil ?_
  refine qR ?_
  refine lM rfl ?_
  refine lN rfl ?_
  refine lV (y_fieldAddr fo_95_3 rfl) ?_
  refine lV (y_fieldAddr fo_88_1 rfl) ?_
  refine lV (y_load1 ld_21 rfl m0 (set_other (by omega) hm.top)) ?_
  refine lV (y_bin rfl rfl rfl (fitI (m := fr.length + 1) (by omega) (by omega))) ?_
  refine lN rfl ?_
  refine lV (y_fieldAddr fo_95_3 rfl) ?_
  refine lV (y_fieldAddr fo_88_1 rfl) ?_
  refine l_does rfl rfl (g_store1 (cs' := ((Mc.set (3 + fr.length * 1) ins).set 13 (.int .i32 ((fr.length + 1 : Nat) : Int)))) sz_21 rfl rfl (by first | rfl | assumption) (blt_of (by first | omega | (simp only [List.length_set]; omega))) (by first | rfl | assumption) rfl .here) ?_
  intro _ _
  refine nR ?_
  refine lM rfl ?_
  refine lM rfl ?_
  refine lM rfl ?_
  refine lV (y_indexAddr (j := j) es_23 rfl rfl hjl) ?_
  refine lV (y_oldLoad1 ld_22 rfl (by rw [block_add]; exact hpb) (by rw [block_add]; exact hpS) hcell) ?_
  refine lN rfl ?_
  refine lV (y_fieldAddr fo_95_2 rfl) ?_
  refine l_does rfl rfl (g_store1 (cs' := (((Mc.set (3 + fr.length * 1) ins).set 13 (.int .i32 ((fr.length + 1 : Nat) : Int))).set 2 (.slice Ai m ci))) sz_22 rfl rfl (by first | rfl | assumption) (blt_of (by first | omega | (simp only [List.length_set]; omega))) (by first | rfl | assumption) rfl .here) ?_
  intro _ _
  refine nR ?_
  refine lA rfl ?_
  refine nQ ?_
  refine c_ret ?_
  exact body_ret (rs := [.tmp 6]) rfl (vs := [.nilIface]) ⟨rfl, trivial⟩ (out_end () trivial rfl .refl) _ (.inr rfl)
end Go.Proofs.YtbepljmeflndkaaGreatDoor
