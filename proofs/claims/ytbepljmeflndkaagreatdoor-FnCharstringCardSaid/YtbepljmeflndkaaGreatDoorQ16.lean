/- Part 16 of the proof about FnCharstring. -/
import Derived.Test.YtbepljmeflndkaaGreatDoorQ15
import Derived.Test.YtbepljmeflndkaaGreatDoorQ12
import Derived.Test.YtbepljmeflndkaaGreatDoorQ14
import Derived.Test.YtbepljmeflndkaaGreatDoorQ10
import Derived.Test.YtbepljmeflndkaaGreatDoorQ07
namespace Go.Proofs.YtbepljmeflndkaaGreatDoor
open Go.Eng Go.Fl
set_option maxRecDepth 100000
attribute [local irreducible] IntKind.wrap Int.tdiv Int.tmod Int.emod maxLen F G
set_option maxHeartbeats 8000000 in
theorem f140_any (w : World) (bH bM M : Nat) (q : QSt) (so : Sv) (v5 v6 v7 v13 : Value) (wd : List Value) (a0 a1 a2 a3 a4 a5 a6 a7 a8 a9 a10 : Int) (hq : ∀ q ∈ [a0, a1, a2, a3, a4, a5, a6, a7, a8, a9, a10], Opd q) (hB0 : q.Bd M) (hM : M + 120 * 2147483648 < 2 ^ 53) (hok : slOk so q.out.length 7 (encG q.out)) (hlen : q.out.length ≤ 70000) (hR : RdM w (((HB bH so q.out.length q.bx v5 v6 v7 q.x q.y q.fx q.fy q.io v13 ((q.bx).isSome) wd) :: slH so (encG q.out) 77).map (·.1)) bM [a0, a1, a2, a3, a4, a5, a6, a7, a8, a9, a10]) (hw : Hp w (((HB bH so q.out.length q.bx v5 v6 v7 q.x q.y q.fx q.fy q.io v13 ((q.bx).isSome) wd) :: slH so (encG q.out) 77).map (·.1)) ((HB bH so q.out.length q.bx v5 v6 v7 q.x q.y q.fx q.fy q.io v13 ((q.bx).isSome) wd) :: slH so (encG q.out) 77) w) : Calls Tryz.prog 140 [.pointer (some ⟨bH, 0, none⟩), .pointer (some ⟨bM, 0, none⟩)].toArray w (Out w (((HB bH so q.out.length q.bx v5 v6 v7 q.x q.y q.fx q.fy q.io v13 ((q.bx).isSome) wd) :: slH so (encG q.out) 77).map (·.1)) (fun z : Sv => slOk z (bif decide (((a1 + a3 + a5 + a7 + a9).natAbs : Int) < (a0 + a2 + a4 + a6 + a8).natAbs) then curveQ (curveQ q a0 a1 a2 a3 a4 a5) a6 a7 a8 a9 a10 (-(a1 + a3 + a5 + a7 + a9)) else curveQ (curveQ q a0 a1 a2 a3 a4 a5) a6 a7 a8 a9 (-(a0 + a2 + a4 + a6 + a8)) a10).out.length 7 (encG (bif decide (((a1 + a3 + a5 + a7 + a9).natAbs : Int) < (a0 + a2 + a4 + a6 + a8).natAbs) then curveQ (curveQ q a0 a1 a2 a3 a4 a5) a6 a7 a8 a9 a10 (-(a1 + a3 + a5 + a7 + a9)) else curveQ (curveQ q a0 a1 a2 a3 a4 a5) a6 a7 a8 a9 (-(a0 + a2 + a4 + a6 + a8)) a10).out)) (fun z => .nilIface) (fun z => (HB bH z (bif decide (((a1 + a3 + a5 + a7 + a9).natAbs : Int) < (a0 + a2 + a4 + a6 + a8).natAbs) then curveQ (curveQ q a0 a1 a2 a3 a4 a5) a6 a7 a8 a9 a10 (-(a1 + a3 + a5 + a7 + a9)) else curveQ (curveQ q a0 a1 a2 a3 a4 a5) a6 a7 a8 a9 (-(a0 + a2 + a4 + a6 + a8)) a10).out.length ((bif decide (((a1 + a3 + a5 + a7 + a9).natAbs : Int) < (a0 + a2 + a4 + a6 + a8).natAbs) then curveQ (curveQ q a0 a1 a2 a3 a4 a5) a6 a7 a8 a9 a10 (-(a1 + a3 + a5 + a7 + a9)) else curveQ (curveQ q a0 a1 a2 a3 a4 a5) a6 a7 a8 a9 (-(a0 + a2 + a4 + a6 + a8)) a10).bx) v5 v6 v7 ((bif decide (((a1 + a3 + a5 + a7 + a9).natAbs : Int) < (a0 + a2 + a4 + a6 + a8).natAbs) then curveQ (curveQ q a0 a1 a2 a3 a4 a5) a6 a7 a8 a9 a10 (-(a1 + a3 + a5 + a7 + a9)) else curveQ (curveQ q a0 a1 a2 a3 a4 a5) a6 a7 a8 a9 (-(a0 + a2 + a4 + a6 + a8)) a10).x) ((bif decide (((a1 + a3 + a5 + a7 + a9).natAbs : Int) < (a0 + a2 + a4 + a6 + a8).natAbs) then curveQ (curveQ q a0 a1 a2 a3 a4 a5) a6 a7 a8 a9 a10 (-(a1 + a3 + a5 + a7 + a9)) else curveQ (curveQ q a0 a1 a2 a3 a4 a5) a6 a7 a8 a9 (-(a0 + a2 + a4 + a6 + a8)) a10).y) ((bif decide (((a1 + a3 + a5 + a7 + a9).natAbs : Int) < (a0 + a2 + a4 + a6 + a8).natAbs) then curveQ (curveQ q a0 a1 a2 a3 a4 a5) a6 a7 a8 a9 a10 (-(a1 + a3 + a5 + a7 + a9)) else curveQ (curveQ q a0 a1 a2 a3 a4 a5) a6 a7 a8 a9 (-(a0 + a2 + a4 + a6 + a8)) a10).fx) ((bif decide (((a1 + a3 + a5 + a7 + a9).natAbs : Int) < (a0 + a2 + a4 + a6 + a8).natAbs) then curveQ (curveQ q a0 a1 a2 a3 a4 a5) a6 a7 a8 a9 a10 (-(a1 + a3 + a5 + a7 + a9)) else curveQ (curveQ q a0 a1 a2 a3 a4 a5) a6 a7 a8 a9 (-(a0 + a2 + a4 + a6 + a8)) a10).fy) ((bif decide (((a1 + a3 + a5 + a7 + a9).natAbs : Int) < (a0 + a2 + a4 + a6 + a8).natAbs) then curveQ (curveQ q a0 a1 a2 a3 a4 a5) a6 a7 a8 a9 a10 (-(a1 + a3 + a5 + a7 + a9)) else curveQ (curveQ q a0 a1 a2 a3 a4 a5) a6 a7 a8 a9 (-(a0 + a2 + a4 + a6 + a8)) a10).io) v13 (((bif decide (((a1 + a3 + a5 + a7 + a9).natAbs : Int) < (a0 + a2 + a4 + a6 + a8).natAbs) then curveQ (curveQ q a0 a1 a2 a3 a4 a5) a6 a7 a8 a9 a10 (-(a1 + a3 + a5 + a7 + a9)) else curveQ (curveQ q a0 a1 a2 a3 a4 a5) a6 a7 a8 a9 (-(a0 + a2 + a4 + a6 + a8)) a10).bx).isSome) wd) :: slH z (encG (bif decide (((a1 + a3 + a5 + a7 + a9).natAbs : Int) < (a0 + a2 + a4 + a6 + a8).natAbs) then curveQ (curveQ q a0 a1 a2 a3 a4 a5) a6 a7 a8 a9 a10 (-(a1 + a3 + a5 + a7 + a9)) else curveQ (curveQ q a0 a1 a2 a3 a4 a5) a6 a7 a8 a9 (-(a0 + a2 + a4 + a6 + a8)) a10).out) 77)) := by
 obtain ⟨hMb, hMS, hMt, hMv⟩ := hR
 have hqx0 := nb hB0.x
 have hqy0 := nb hB0.y
 have h0 : [a0, a1, a2, a3, a4, a5, a6, a7, a8, a9, a10][0]? = some a0 := rfl
 have n0 := at_opd hq h0
 have h1 : [a0, a1, a2, a3, a4, a5, a6, a7, a8, a9, a10][1]? = some a1 := rfl
 have n1 := at_opd hq h1
 have h2 : [a0, a1, a2, a3, a4, a5, a6, a7, a8, a9, a10][2]? = some a2 := rfl
 have n2 := at_opd hq h2
 have h3 : [a0, a1, a2, a3, a4, a5, a6, a7, a8, a9, a10][3]? = some a3 := rfl
 have n3 := at_opd hq h3
 have h4 : [a0, a1, a2, a3, a4, a5, a6, a7, a8, a9, a10][4]? = some a4 := rfl
 have n4 := at_opd hq h4
 have h5 : [a0, a1, a2, a3, a4, a5, a6, a7, a8, a9, a10][5]? = some a5 := rfl
 have n5 := at_opd hq h5
 have h6 : [a0, a1, a2, a3, a4, a5, a6, a7, a8, a9, a10][6]? = some a6 := rfl
 have n6 := at_opd hq h6
 have h7 : [a0, a1, a2, a3, a4, a5, a6, a7, a8, a9, a10][7]? = some a7 := rfl
 have n7 := at_opd hq h7
 have h8 : [a0, a1, a2, a3, a4, a5, a6, a7, a8, a9, a10][8]? = some a8 := rfl
 have n8 := at_opd hq h8
 have h9 : [a0, a1, a2, a3, a4, a5, a6, a7, a8, a9, a10][9]? = some a9 := rfl
 have n9 := at_opd hq h9
 have h10 : [a0, a1, a2, a3, a4, a5, a6, a7, a8, a9, a10][10]? = some a10 := rfl
 have n10 := at_opd hq h10
 refine enter (n := 161) Tryz.func140 rfl rfl rfl hw ?_
 refine cR ?_
 refine lA rfl ?_
 refine nQ ?_
 refine c_seq ?_
 refine cR ?_
 refine lM rfl ?_
 refine lN rfl ?_
 refine lV (y_fieldAddr fo_95_4 rfl) ?_
 refine lV (y_fieldAddr fo_91_1 rfl) ?_
 refine lV (y_oldLoad1 ld_21 rfl hMb hMS hMt) ?_
 refine lV (y_bin rfl rfl rfl (by rfl)) ?_
 refine nQ ?_
 refine c_false rfl rfl ?_
 refine kR ?_
 refine l_gives rfl rfl (g_alloc ze_50) rfl ?_
 intro b5 hb5
 refine nQ ?_
 refine c_seq ?_
 refine c_seq ?_
 refine c_perm zero50 ?_
 refine c_region ?_
 refine lA rfl ?_
 refine nQ ?_
 refine c_block ?_
 refine c_loopU ?_
 refine c_unroll ?_
 refine c_seq ?_
 refine cR ?_
 refine lM rfl ?_
 refine lB rfl rfl rfl rfl ?_
 refine nQ ?_
 refine c_true rfl rfl ?_
 refine kQ ?_
 refine c_seq ?_
 refine c_block ?_
 refine c_draw [] mixed rfl ?_
 refine dM 0 rfl rfl ?_
 refine dM 1 rfl rfl ?_
 refine dN 2 rfl rfl ?_
 refine dV 3 rfl (y_fieldAddr fo_95_4 rfl) ?_
 refine dV 4 rfl (y_fieldAddr fo_91_0 rfl) ?_
 refine dV 5 rfl (y_indexArr (j := 0) ar_89 rfl rfl (blt513 (by omega))) ?_
 refine dV 6 rfl (y_oldLoad1 ld_41 rfl hMb hMS (hMv (0) _ h0)) ?_
 refine dM 7 rfl rfl ?_
 refine dM 8 rfl rfl ?_
 refine dV 9 rfl (y_bin rfl rfl rfl (fitN (m := 1) (by decide) (by decide))) ?_
 refine dN 10 rfl rfl ?_
 refine dV 11 rfl (y_fieldAddr fo_95_4 rfl) ?_
 refine dV 12 rfl (y_fieldAddr fo_91_0 rfl) ?_
 refine dV 13 rfl (y_indexArr (j := 1) ar_89 rfl rfl (blt513 (by omega))) ?_
 refine dV 14 rfl (y_oldLoad1 ld_41 rfl hMb hMS (hMv (1) _ h1)) ?_
 refine d_ready (i := 15) (rs := []) (by kernel_rfl) .nil (all_one ?_)
 refine o_call rfl (no_guard rfl) ok_148 rfl rfl (out_one [] (b := (b5, [] ++ (.float .f64 (F 0) :: .float .f64 (F 0) :: []), 50)) (fun w9 ha_ hb_ => f148_any w9 b5 [] [] 50 0 0 a0 a1 (F a0) (F a1) (by omega) (by omega) (RF_F (by omega)) (RF_F (by omega)) (by omega) (by omega) hb_)) ?_
 intro _ _
 refine d_end (by kernel_rfl) .nil ?_
 refine q_block ?_
 refine qG ?_
 refine lM rfl ?_
 refine lV (y_bin rfl rfl rfl (fitN (m := 2) (by decide) (by decide))) ?_
 refine lA rfl ?_
 refine l_nil ?_
 refine q_unroll ?_
 refine c_unroll ?_
 refine c_seq ?_
 refine cR ?_
 refine lM rfl ?_
 refine lB rfl rfl rfl rfl ?_
 refine nQ ?_
 refine c_true rfl rfl ?_
 refine kQ ?_
 refine c_seq ?_
 refine c_block ?_
 refine c_draw [] mixed rfl ?_
 refine dM 0 rfl rfl ?_
 refine dM 1 rfl rfl ?_
 refine dN 2 rfl rfl ?_
 refine dV 3 rfl (y_fieldAddr fo_95_4 rfl) ?_
 refine dV 4 rfl (y_fieldAddr fo_91_0 rfl) ?_
 refine dV 5 rfl (y_indexArr (j := 2) ar_89 rfl rfl (blt513 (by omega))) ?_
 refine dV 6 rfl (y_oldLoad1 ld_41 rfl hMb hMS (hMv (2) _ h2)) ?_
 refine dM 7 rfl rfl ?_
 refine dM 8 rfl rfl ?_
 refine dV 9 rfl (y_bin rfl rfl rfl (fitN (m := 3) (by decide) (by decide))) ?_
 refine dN 10 rfl rfl ?_
 refine dV 11 rfl (y_fieldAddr fo_95_4 rfl) ?_
 refine dV 12 rfl (y_fieldAddr fo_91_0 rfl) ?_
 refine dV 13 rfl (y_indexArr (j := 3) ar_89 rfl rfl (blt513 (by omega))) ?_
 refine dV 14 rfl (y_oldLoad1 ld_41 rfl hMb hMS (hMv (3) _ h3)) ?_
 refine d_ready (i := 15) (rs := []) (by kernel_rfl) .nil (all_one ?_)
 refine o_call rfl (no_guard rfl) ok_148 rfl rfl (out_one [] (b := (b5, [] ++ (.float .f64 (F (0 + a0)) :: .float .f64 (F (0 + a1)) :: []), 50)) (fun w9 ha_ hb_ => f148_any w9 b5 [] [] 50 (0 + a0) (0 + a1) a2 a3 (F a2) (F a3) (by omega) (by omega) (RF_F (by omega)) (RF_F (by omega)) (by omega) (by omega) hb_)) ?_
 intro _ _
 refine d_end (by kernel_rfl) .nil ?_
 refine q_block ?_
 refine qG ?_
 refine lM rfl ?_
 refine lV (y_bin rfl rfl rfl (fitN (m := 4) (by decide) (by decide))) ?_
 refine lA rfl ?_
 refine l_nil ?_
 refine q_unroll ?_
 refine c_unroll ?_
 refine c_seq ?_
 refine cR ?_
 refine lM rfl ?_
 refine lB rfl rfl rfl rfl ?_
 refine nQ ?_
 refine c_true rfl rfl ?_
 refine kQ ?_
 refine c_seq ?_
 refine c_block ?_
 refine c_draw [] mixed rfl ?_
 refine dM 0 rfl rfl ?_
 refine dM 1 rfl rfl ?_
 refine dN 2 rfl rfl ?_
 refine dV 3 rfl (y_fieldAddr fo_95_4 rfl) ?_
 refine dV 4 rfl (y_fieldAddr fo_91_0 rfl) ?_
 refine dV 5 rfl (y_indexArr (j := 4) ar_89 rfl rfl (blt513 (by omega))) ?_
 refine dV 6 rfl (y_oldLoad1 ld_41 rfl hMb hMS (hMv (4) _ h4)) ?_
 refine dM 7 rfl rfl ?_
 refine dM 8 rfl rfl ?_
 refine dV 9 rfl (y_bin rfl rfl rfl (fitN (m := 5) (by decide) (by decide))) ?_
 refine dN 10 rfl rfl ?_
 refine dV 11 rfl (y_fieldAddr fo_95_4 rfl) ?_
 refine dV 12 rfl (y_fieldAddr fo_91_0 rfl) ?_
 refine dV 13 rfl (y_indexArr (j := 5) ar_89 rfl rfl (blt513 (by omega))) ?_
 refine dV 14 rfl (y_oldLoad1 ld_41 rfl hMb hMS (hMv (5) _ h5)) ?_
 refine d_ready (i := 15) (rs := []) (by kernel_rfl) .nil (all_one ?_)
 refine o_call rfl (no_guard rfl) ok_148 rfl rfl (out_one [] (b := (b5, [] ++ (.float .f64 (F ((0 + a0) + a2)) :: .float .f64 (F ((0 + a1) + a3)) :: []), 50)) (fun w9 ha_ hb_ => f148_any w9 b5 [] [] 50 ((0 + a0) + a2) ((0 + a1) + a3) a4 a5 (F a4) (F a5) (by omega) (by omega) (RF_F (by omega)) (RF_F (by omega)) (by omega) (by omega) hb_)) ?_
 intro _ _
 refine d_end (by kernel_rfl) .nil ?_
 refine q_block ?_
 refine qG ?_
 refine lM rfl ?_
 refine lV (y_bin rfl rfl rfl (fitN (m := 6) (by decide) (by decide))) ?_
 refine lA rfl ?_
 refine l_nil ?_
 refine q_unroll ?_
 refine c_unroll ?_
 refine c_seq ?_
 refine cR ?_
 refine lM rfl ?_
 refine lB rfl rfl rfl rfl ?_
 refine nQ ?_
 refine c_true rfl rfl ?_
 refine kQ ?_
 refine c_seq ?_
 refine c_block ?_
 refine c_draw [] mixed rfl ?_
 refine dM 0 rfl rfl ?_
 refine dM 1 rfl rfl ?_
 refine dN 2 rfl rfl ?_
 refine dV 3 rfl (y_fieldAddr fo_95_4 rfl) ?_
 refine dV 4 rfl (y_fieldAddr fo_91_0 rfl) ?_
 refine dV 5 rfl (y_indexArr (j := 6) ar_89 rfl rfl (blt513 (by omega))) ?_
 refine dV 6 rfl (y_oldLoad1 ld_41 rfl hMb hMS (hMv (6) _ h6)) ?_
 refine dM 7 rfl rfl ?_
 refine dM 8 rfl rfl ?_
 refine dV 9 rfl (y_bin rfl rfl rfl (fitN (m := 7) (by decide) (by decide))) ?_
 refine dN 10 rfl rfl ?_
 refine dV 11 rfl (y_fieldAddr fo_95_4 rfl) ?_
 refine dV 12 rfl (y_fieldAddr fo_91_0 rfl) ?_
 refine dV 13 rfl (y_indexArr (j := 7) ar_89 rfl rfl (blt513 (by omega))) ?_
 refine dV 14 rfl (y_oldLoad1 ld_41 rfl hMb hMS (hMv (7) _ h7)) ?_
 refine d_ready (i := 15) (rs := []) (by kernel_rfl) .nil (all_one ?_)
 refine o_call rfl (no_guard rfl) ok_148 rfl rfl (out_one [] (b := (b5, [] ++ (.float .f64 (F (((0 + a0) + a2) + a4)) :: .float .f64 (F (((0 + a1) + a3) + a5)) :: []), 50)) (fun w9 ha_ hb_ => f148_any w9 b5 [] [] 50 (((0 + a0) + a2) + a4) (((0 + a1) + a3) + a5) a6 a7 (F a6) (F a7) (by omega) (by omega) (RF_F (by omega)) (RF_F (by omega)) (by omega) (by omega) hb_)) ?_
 intro _ _
 refine d_end (by kernel_rfl) .nil ?_
 refine q_block ?_
 refine qG ?_
 refine lM rfl ?_
 refine lV (y_bin rfl rfl rfl (fitN (m := 8) (by decide) (by decide))) ?_
 refine lA rfl ?_
 refine l_nil ?_
 refine q_unroll ?_
 refine c_unroll ?_
 refine c_seq ?_
 refine cR ?_
 refine lM rfl ?_
 refine lB rfl rfl rfl rfl ?_
 refine nQ ?_
 refine c_true rfl rfl ?_
 refine kQ ?_
 refine c_seq ?_
 refine c_block ?_
 refine c_draw [] mixed rfl ?_
 refine dM 0 rfl rfl ?_
 refine dM 1 rfl rfl ?_
 refine dN 2 rfl rfl ?_
 refine dV 3 rfl (y_fieldAddr fo_95_4 rfl) ?_
 refine dV 4 rfl (y_fieldAddr fo_91_0 rfl) ?_
 refine dV 5 rfl (y_indexArr (j := 8) ar_89 rfl rfl (blt513 (by omega))) ?_
 refine dV 6 rfl (y_oldLoad1 ld_41 rfl hMb hMS (hMv (8) _ h8)) ?_
 refine dM 7 rfl rfl ?_
 refine dM 8 rfl rfl ?_
 refine dV 9 rfl (y_bin rfl rfl rfl (fitN (m := 9) (by decide) (by decide))) ?_
 refine dN 10 rfl rfl ?_
 refine dV 11 rfl (y_fieldAddr fo_95_4 rfl) ?_
 refine dV 12 rfl (y_fieldAddr fo_91_0 rfl) ?_
 refine dV 13 rfl (y_indexArr (j := 9) ar_89 rfl rfl (blt513 (by omega))) ?_
 refine dV 14 rfl (y_oldLoad1 ld_41 rfl hMb hMS (hMv (9) _ h9)) ?_
 refine d_ready (i := 15) (rs := []) (by kernel_rfl) .nil (all_one ?_)
 refine o_call rfl (no_guard rfl) ok_148 rfl rfl (out_one [] (b := (b5, [] ++ (.float .f64 (F ((((0 + a0) + a2) + a4) + a6)) :: .float .f64 (F ((((0 + a1) + a3) + a5) + a7)) :: []), 50)) (fun w9 ha_ hb_ => f148_any w9 b5 [] [] 50 ((((0 + a0) + a2) + a4) + a6) ((((0 + a1) + a3) + a5) + a7) a8 a9 (F a8) (F a9) (by omega) (by omega) (RF_F (by omega)) (RF_F (by omega)) (by omega) (by omega) hb_)) ?_
 intro _ _
 refine d_end (by kernel_rfl) .nil ?_
 refine q_block ?_
 refine qG ?_
 refine lM rfl ?_
 refine lV (y_bin rfl rfl rfl (fitN (m := 10) (by decide) (by decide))) ?_
 refine lA rfl ?_
 refine l_nil ?_
 refine q_unroll ?_
 refine c_unroll ?_
 refine c_seq ?_
 refine cR ?_
 refine lM rfl ?_
 refine lB rfl rfl rfl rfl ?_
 refine nQ ?_
 refine c_false rfl rfl ?_
 refine c_exit ?_
 refine q_then_exit ?_
 refine q_then_exit ?_
 refine q_block_exit ?_
 refine qR ?_
 refine lM rfl ?_
 refine lN rfl ?_
 refine lV (y_fieldAddr fo_97_5 rfl) ?_
 refine lV (y_loadN (vs := [_, _]) ld_50 rfl m1 rfl rfl) ?_
 refine l_gives rfl rfl (g_alloc ze_50) rfl ?_
 intro b7 hb7
 refine l_does rfl rfl (g_storeN (vs := [_, _]) (cs' := [_, _]) sz_50 rfl rfl rfl rfl rfl rfl rfl .here) ?_
 intro _ _
 refine nQ ?_
 refine c_seq ?_
 refine c_draw [] mixed rfl ?_
 refine dM 0 rfl rfl ?_
 refine dN 1 rfl rfl ?_
 refine dV 2 rfl (y_fieldAddr fo_95_4 rfl) ?_
 refine dV 3 rfl (y_fieldAddr fo_91_0 rfl) ?_
 refine dV 4 rfl (y_indexArr (j := 0) ar_89 rfl rfl (blt513 (by omega))) ?_
 refine dV 5 rfl (y_oldLoad1 ld_41 rfl hMb hMS (hMv (0) _ h0)) ?_
 refine dM 6 rfl rfl ?_
 refine dN 7 rfl rfl ?_
 refine dV 8 rfl (y_fieldAddr fo_95_4 rfl) ?_
 refine dV 9 rfl (y_fieldAddr fo_91_0 rfl) ?_
 refine dV 10 rfl (y_indexArr (j := 1) ar_89 rfl rfl (blt513 (by omega))) ?_
 refine dV 11 rfl (y_oldLoad1 ld_41 rfl hMb hMS (hMv (1) _ h1)) ?_
 refine d_ready (i := 12) (rs := []) (by kernel_rfl) .nil (all_one ?_)
 refine o_call rfl (no_guard rfl) ok_148 rfl rfl (out_one [] (b := (b7, [] ++ (.float .f64 (F q.x) :: .float .f64 (F q.y) :: []), 50)) (fun w9 ha_ hb_ => f148_any w9 b7 [] [] 50 q.x q.y a0 a1 (F a0) (F a1) (by omega) (by omega) (RF_F (by omega)) (RF_F (by omega)) (by omega) (by omega) hb_)) ?_
 intro _ _
 refine d_end (by kernel_rfl) .nil ?_
 refine qR ?_
 refine lV (y_loadN (vs := [_, _]) ld_50 rfl m0 rfl rfl) ?_
 refine l_gives rfl rfl (g_alloc ze_50) rfl ?_
 intro b8 hb8
 refine l_does rfl rfl (g_storeN (vs := [_, _]) (cs' := [_, _]) sz_50 rfl rfl rfl rfl rfl rfl rfl .here) ?_
 intro _ _
 refine nQ ?_
 refine c_seq ?_
 refine c_draw [] mixed rfl ?_
 refine dM 0 rfl rfl ?_
 refine dN 1 rfl rfl ?_
 refine dV 2 rfl (y_fieldAddr fo_95_4 rfl) ?_
 refine dV 3 rfl (y_fieldAddr fo_91_0 rfl) ?_
 refine dV 4 rfl (y_indexArr (j := 2) ar_89 rfl rfl (blt513 (by omega))) ?_
 refine dV 5 rfl (y_oldLoad1 ld_41 rfl hMb hMS (hMv (2) _ h2)) ?_
 refine dM 6 rfl rfl ?_
 refine dN 7 rfl rfl ?_
 refine dV 8 rfl (y_fieldAddr fo_95_4 rfl) ?_
 refine dV 9 rfl (y_fieldAddr fo_91_0 rfl) ?_
 refine dV 10 rfl (y_indexArr (j := 3) ar_89 rfl rfl (blt513 (by omega))) ?_
 refine dV 11 rfl (y_oldLoad1 ld_41 rfl hMb hMS (hMv (3) _ h3)) ?_
 refine d_ready (i := 12) (rs := []) (by kernel_rfl) .nil (all_one ?_)
 refine o_call rfl (no_guard rfl) ok_148 rfl rfl (out_one [] (b := (b8, [] ++ (.float .f64 (F (q.x + a0)) :: .float .f64 (F (q.y + a1)) :: []), 50)) (fun w9 ha_ hb_ => f148_any w9 b8 [] [] 50 (q.x + a0) (q.y + a1) a2 a3 (F a2) (F a3) (by omega) (by omega) (RF_F (by omega)) (RF_F (by omega)) (by omega) (by omega) hb_)) ?_
 intro _ _
 refine d_end (by kernel_rfl) .nil ?_
 refine qR ?_
 refine lV (y_loadN (vs := [_, _]) ld_50 rfl m0 rfl rfl) ?_
 refine l_gives rfl rfl (g_alloc ze_50) rfl ?_
 intro b9 hb9
 refine l_does rfl rfl (g_storeN (vs := [_, _]) (cs' := [_, _]) sz_50 rfl rfl rfl rfl rfl rfl rfl .here) ?_
 intro _ _
 refine nQ ?_
 refine c_seq ?_
 refine c_draw [] mixed rfl ?_
 refine dM 0 rfl rfl ?_
 refine dN 1 rfl rfl ?_
 refine dV 2 rfl (y_fieldAddr fo_95_4 rfl) ?_
 refine dV 3 rfl (y_fieldAddr fo_91_0 rfl) ?_
 refine dV 4 rfl (y_indexArr (j := 4) ar_89 rfl rfl (blt513 (by omega))) ?_
 refine dV 5 rfl (y_oldLoad1 ld_41 rfl hMb hMS (hMv (4) _ h4)) ?_
 refine dM 6 rfl rfl ?_
 refine dN 7 rfl rfl ?_
 refine dV 8 rfl (y_fieldAddr fo_95_4 rfl) ?_
 refine dV 9 rfl (y_fieldAddr fo_91_0 rfl) ?_
 refine dV 10 rfl (y_indexArr (j := 5) ar_89 rfl rfl (blt513 (by omega))) ?_
 refine dV 11 rfl (y_oldLoad1 ld_41 rfl hMb hMS (hMv (5) _ h5)) ?_
 refine d_ready (i := 12) (rs := []) (by kernel_rfl) .nil (all_one ?_)
 refine o_call rfl (no_guard rfl) ok_148 rfl rfl (out_one [] (b := (b9, [] ++ (.float .f64 (F ((q.x + a0) + a2)) :: .float .f64 (F ((q.y + a1) + a3)) :: []), 50)) (fun w9 ha_ hb_ => f148_any w9 b9 [] [] 50 ((q.x + a0) + a2) ((q.y + a1) + a3) a4 a5 (F a4) (F a5) (by omega) (by omega) (RF_F (by omega)) (RF_F (by omega)) (by omega) (by omega) hb_)) ?_
 intro _ _
 refine d_end (by kernel_rfl) .nil ?_
 refine qR ?_
 refine lV (y_loadN (vs := [_, _]) ld_50 rfl m0 rfl rfl) ?_
 refine l_gives rfl rfl (g_alloc ze_50) rfl ?_
 intro b10 hb10
 refine l_does rfl rfl (g_storeN (vs := [_, _]) (cs' := [_, _]) sz_50 rfl rfl rfl rfl rfl rfl rfl .here) ?_
 intro _ _
 refine nQ ?_
 refine c_seq ?_
 refine c_draw [] mixed rfl ?_
 refine dM 0 rfl rfl ?_
 refine dN 1 rfl rfl ?_
 refine dV 2 rfl (y_fieldAddr fo_95_4 rfl) ?_
 refine dV 3 rfl (y_fieldAddr fo_91_0 rfl) ?_
 refine dV 4 rfl (y_indexArr (j := 6) ar_89 rfl rfl (blt513 (by omega))) ?_
 refine dV 5 rfl (y_oldLoad1 ld_41 rfl hMb hMS (hMv (6) _ h6)) ?_
 refine dM 6 rfl rfl ?_
 refine dN 7 rfl rfl ?_
 refine dV 8 rfl (y_fieldAddr fo_95_4 rfl) ?_
 refine dV 9 rfl (y_fieldAddr fo_91_0 rfl) ?_
 refine dV 10 rfl (y_indexArr (j := 7) ar_89 rfl rfl (blt513 (by omega))) ?_
 refine dV 11 rfl (y_oldLoad1 ld_41 rfl hMb hMS (hMv (7) _ h7)) ?_
 refine d_ready (i := 12) (rs := []) (by kernel_rfl) .nil (all_one ?_)
 refine o_call rfl (no_guard rfl) ok_148 rfl rfl (out_one [] (b := (b10, [] ++ (.float .f64 (F (((q.x + a0) + a2) + a4)) :: .float .f64 (F (((q.y + a1) + a3) + a5)) :: []), 50)) (fun w9 ha_ hb_ => f148_any w9 b10 [] [] 50 (((q.x + a0) + a2) + a4) (((q.y + a1) + a3) + a5) a6 a7 (F a6) (F a7) (by omega) (by omega) (RF_F (by omega)) (RF_F (by omega)) (by omega) (by omega) hb_)) ?_
 intro _ _
 refine d_end (by kernel_rfl) .nil ?_
 refine qR ?_
 refine lV (y_loadN (vs := [_, _]) ld_50 rfl m0 rfl rfl) ?_
 refine l_gives rfl rfl (g_alloc ze_50) rfl ?_
 intro b11 hb11
 refine l_does rfl rfl (g_storeN (vs := [_, _]) (cs' := [_, _]) sz_50 rfl rfl rfl rfl rfl rfl rfl .here) ?_
 intro _ _
 refine nQ ?_
 refine c_seq ?_
 refine c_draw [] mixed rfl ?_
 refine dM 0 rfl rfl ?_
 refine dN 1 rfl rfl ?_
 refine dV 2 rfl (y_fieldAddr fo_95_4 rfl) ?_
 refine dV 3 rfl (y_fieldAddr fo_91_0 rfl) ?_
 refine dV 4 rfl (y_indexArr (j := 8) ar_89 rfl rfl (blt513 (by omega))) ?_
 refine dV 5 rfl (y_oldLoad1 ld_41 rfl hMb hMS (hMv (8) _ h8)) ?_
 refine dM 6 rfl rfl ?_
 refine dN 7 rfl rfl ?_
 refine dV 8 rfl (y_fieldAddr fo_95_4 rfl) ?_
 refine dV 9 rfl (y_fieldAddr fo_91_0 rfl) ?_
 refine dV 10 rfl (y_indexArr (j := 9) ar_89 rfl rfl (blt513 (by omega))) ?_
 refine dV 11 rfl (y_oldLoad1 ld_41 rfl hMb hMS (hMv (9) _ h9)) ?_
 refine d_ready (i := 12) (rs := []) (by kernel_rfl) .nil (all_one ?_)
 refine o_call rfl (no_guard rfl) ok_148 rfl rfl (out_one [] (b := (b11, [] ++ (.float .f64 (F ((((q.x + a0) + a2) + a4) + a6)) :: .float .f64 (F ((((q.y + a1) + a3) + a5) + a7)) :: []), 50)) (fun w9 ha_ hb_ => f148_any w9 b11 [] [] 50 ((((q.x + a0) + a2) + a4) + a6) ((((q.y + a1) + a3) + a5) + a7) a8 a9 (F a8) (F a9) (by omega) (by omega) (RF_F (by omega)) (RF_F (by omega)) (by omega) (by omega) hb_)) ?_
 intro _ _
 refine d_end (by kernel_rfl) .nil ?_
 refine qR ?_
 refine lV (y_loadN (vs := [_, _]) ld_50 rfl m0 rfl rfl) ?_
 refine l_gives rfl rfl (g_alloc ze_50) rfl ?_
 intro b12 hb12
 refine l_does rfl rfl (g_storeN (vs := [_, _]) (cs' := [_, _]) sz_50 rfl rfl rfl rfl rfl rfl rfl .here) ?_
 intro _ _
 refine nQ ?_
 refine c_seq ?_
 refine c_seq ?_
 refine c_drawH mixed rfl ?_
 refine dV 0 rfl (y_fieldAddr fo_50_0 rfl) ?_
 refine dV 1 rfl (y_load1 ld_41 rfl m6 rfl) ?_
 refine dV 3 rfl (y_fieldAddr fo_50_1 rfl) ?_
 refine dV 4 rfl (y_load1 ld_41 rfl m6 rfl) ?_
 refine d_ready (i := 2) (rs := []) (by kernel_rfl) (.cons .here (.cons .here (.cons .here (.cons .here (.cons .here (.cons .here (.cons .here (.cons .here .refl)))))))) (all_one ?_)
 refine o_call rfl (no_guard rfl) ok_153 rfl rfl (out_keep (fun w9 => f153_any w9 (0 + a0 + a2 + a4 + a6 + a8) (by omega))) ?_
 intro _ _
 refine d_ready (i := 5) (rs := []) (by kernel_rfl) (.cons .here (.cons .here (.cons .here (.cons .here (.cons .here (.cons .here (.cons .here (.cons .here .refl)))))))) (all_one ?_)
 refine o_call rfl (no_guard rfl) ok_153 rfl rfl (out_keep (fun w9 => f153_any w9 (0 + a1 + a3 + a5 + a7 + a9) (by omega))) ?_
 intro _ _
 refine dV 6 rfl (y_fcmp rfl rfl (order_RF (abs_RF (RF_F (q := (0 + a0 + a2 + a4 + a6 + a8)) (by omega))) (abs_RF (RF_F (q := (0 + a1 + a3 + a5 + a7 + a9)) (by omega)))) (cmp_gt _ _)) ?_
 refine d_end (by kernel_rfl) (.cons .here (.cons .here (.cons .here (.cons .here (.cons .here (.cons .here (.cons .here (.cons .here .refl)))))))) ?_
 refine q_then ?_
 refine c_cond rfl (fun hc120 => ?_) (fun hc120 => ?_)
 ·have hdx : (0 + a0 + a2 + a4 + a6 + a8) = (a0 + a2 + a4 + a6 + a8) := by omega
  have hdy : (0 + a1 + a3 + a5 + a7 + a9) = (a1 + a3 + a5 + a7 + a9) := by omega
  rw [hdx, hdy] at hc120
  refine c_seq ?_
  refine c_draw [] mixed rfl ?_
  refine dV 0 rfl (y_fieldAddr fo_50_0 rfl) ?_
  refine dM 2 rfl rfl ?_
  refine dN 3 rfl rfl ?_
  refine dV 4 rfl (y_fieldAddr fo_95_4 rfl) ?_
  refine dV 5 rfl (y_fieldAddr fo_91_0 rfl) ?_
  refine dV 6 rfl (y_indexArr (j := 10) ar_89 rfl rfl (blt513 (by omega))) ?_
  refine dV 7 rfl (y_oldLoad1 ld_41 rfl hMb hMS (hMv (10) _ h10)) ?_
  refine d_ready (i := 1) (rs := []) (by kernel_rfl) .nil (all_one ?_)
  refine o_gives rfl rfl rfl (gy (y_load1 ld_41 rfl m0 rfl)) rfl ?_
  intro _ _
  refine dV 8 rfl (y_fadd (a := (((((q.x + a0) + a2) + a4) + a6) + a8)) (b := a10) rfl rfl (by omega) (RF_F (by omega)) (by omega)) ?_
  refine dV 9 rfl (y_fieldAddr fo_50_0 rfl) ?_
  refine d_ready (i := 10) (rs := []) (by kernel_rfl) .nil (all_one ?_)
  refine o_does rfl rfl rfl (g_store1 (cs' := [_, _]) sz_41 rfl rfl rfl rfl rfl rfl .here) ?_
  intro _ _
  refine d_end (by kernel_rfl) .nil ?_
  refine qG ?_
  refine lM rfl ?_
  refine lN rfl ?_
  refine lV (y_fieldAddr fo_97_5 rfl) ?_
  refine lV (y_fieldAddr fo_50_1 rfl) ?_
  refine lV (y_load1 ld_41 rfl m7 rfl) ?_
  refine lV (y_fieldAddr fo_50_1 rfl) ?_
  refine l_does rfl rfl (g_store1 (cs' := [_, _]) sz_41 rfl rfl rfl rfl rfl rfl .here) ?_
  intro _ _
  refine nR ?_
  refine lM rfl ?_
  refine lV (y_loadN (vs := [_, _]) ld_50 rfl m5 rfl rfl) ?_
  refine lV (y_loadN (vs := [_, _]) ld_50 rfl m4 rfl rfl) ?_
  refine lV (y_loadN (vs := [_, _]) ld_50 rfl m3 rfl rfl) ?_
  refine lV (y_loadN (vs := [_, _]) ld_50 rfl m2 rfl rfl) ?_
  refine lV (y_loadN (vs := [_, _]) ld_50 rfl m1 rfl rfl) ?_
  refine lV (y_loadN (vs := [_, _]) ld_50 rfl m0 rfl rfl) ?_
  refine l_call ok_152 rfl rfl (out_tail (A := [_, _, _, _, _, _, _]) (H1 := (HB bH so q.out.length q.bx v5 v6 v7 q.x q.y q.fx q.fy q.io v13 ((q.bx).isSome) wd) :: slH so (encG q.out) 77) (fun w9 ha_ hb_ => f152_any w9 bH (M + 20 * 2147483648) q so v5 v6 v7 v13 wd (Nat.lt_of_le_of_lt (show (M + 20 * 2147483648) ≤ M + 60 * 2147483648 by omega) (by omega)) (hB0.mono (by omega)) (q.x + a0) (q.y + a1) ((q.x + a0) + a2) ((q.y + a1) + a3) (((q.x + a0) + a2) + a4) (((q.y + a1) + a3) + a5) ((((q.x + a0) + a2) + a4) + a6) ((((q.y + a1) + a3) + a5) + a7) (((((q.x + a0) + a2) + a4) + a6) + a8) (((((q.y + a1) + a3) + a5) + a7) + a9) ((((((q.x + a0) + a2) + a4) + a6) + a8) + a10) q.y (by omega) (by omega) (by omega) (by omega) (by omega) (by omega) (by omega) (by omega) (by omega) (by omega) (by omega) (by omega) hok (by omega) hb_)) ?_
  intro so_1 hok_1
  refine nR ?_
  refine lA rfl ?_
  refine nQ ?_
  refine c_ret ?_
  have hE2 : (curveA (curveA q (q.x + a0) (q.y + a1) ((q.x + a0) + a2) ((q.y + a1) + a3) (((q.x + a0) + a2) + a4) (((q.y + a1) + a3) + a5)) ((((q.x + a0) + a2) + a4) + a6) ((((q.y + a1) + a3) + a5) + a7) (((((q.x + a0) + a2) + a4) + a6) + a8) (((((q.y + a1) + a3) + a5) + a7) + a9) ((((((q.x + a0) + a2) + a4) + a6) + a8) + a10) q.y) = curveQ (curveQ q a0 a1 a2 a3 a4 a5) a6 a7 a8 a9 a10 (-(a1 + a3 + a5 + a7 + a9)) := curveQ_of (curveQ_of rfl (by omega) (by omega) (by omega) (by omega) (by omega) (by omega)) (by simp only [curveQ] <;> omega) (by simp only [curveQ] <;> omega) (by simp only [curveQ] <;> omega) (by simp only [curveQ] <;> omega) (by simp only [curveQ] <;> omega) (by simp only [curveQ] <;> omega)
  have hE3 : (curveA (curveA q (q.x + a0) (q.y + a1) ((q.x + a0) + a2) ((q.y + a1) + a3) (((q.x + a0) + a2) + a4) (((q.y + a1) + a3) + a5)) ((((q.x + a0) + a2) + a4) + a6) ((((q.y + a1) + a3) + a5) + a7) (((((q.x + a0) + a2) + a4) + a6) + a8) (((((q.y + a1) + a3) + a5) + a7) + a9) ((((((q.x + a0) + a2) + a4) + a6) + a8) + a10) q.y) = (bif decide (((a1 + a3 + a5 + a7 + a9).natAbs : Int) < (a0 + a2 + a4 + a6 + a8).natAbs) then curveQ (curveQ q a0 a1 a2 a3 a4 a5) a6 a7 a8 a9 a10 (-(a1 + a3 + a5 + a7 + a9)) else curveQ (curveQ q a0 a1 a2 a3 a4 a5) a6 a7 a8 a9 (-(a0 + a2 + a4 + a6 + a8)) a10) := by rw [hc120]; exact hE2
  rw [← hE3]
  exact body_ret (rs := [.tmp 4]) rfl (vs := [.nilIface]) ⟨rfl, trivial⟩ (out_end so_1 hok_1 rfl (.cons (.there (.there (.there (.there (.there (.there (.there .here))))))) (.skip (.skip (.skip (.skip (.skip (.skip (.skip .refl))))))))) _ (.inr rfl)
 ·have hdx : (0 + a0 + a2 + a4 + a6 + a8) = (a0 + a2 + a4 + a6 + a8) := by omega
  have hdy : (0 + a1 + a3 + a5 + a7 + a9) = (a1 + a3 + a5 + a7 + a9) := by omega
  rw [hdx, hdy] at hc120
  refine cR ?_
  refine lM rfl ?_
  refine lN rfl ?_
  refine lV (y_fieldAddr fo_97_5 rfl) ?_
  refine lV (y_fieldAddr fo_50_0 rfl) ?_
  refine lV (y_load1 ld_41 rfl m7 rfl) ?_
  refine lV (y_fieldAddr fo_50_0 rfl) ?_
  refine l_does rfl rfl (g_store1 (cs' := [_, _]) sz_41 rfl rfl rfl rfl rfl rfl .here) ?_
  intro _ _
  refine nQ ?_
  refine c_draw [] mixed rfl ?_
  refine dV 0 rfl (y_fieldAddr fo_50_1 rfl) ?_
  refine dM 2 rfl rfl ?_
  refine dN 3 rfl rfl ?_
  refine dV 4 rfl (y_fieldAddr fo_95_4 rfl) ?_
  refine dV 5 rfl (y_fieldAddr fo_91_0 rfl) ?_
  refine dV 6 rfl (y_indexArr (j := 10) ar_89 rfl rfl (blt513 (by omega))) ?_
  refine dV 7 rfl (y_oldLoad1 ld_41 rfl hMb hMS (hMv (10) _ h10)) ?_
  refine d_ready (i := 1) (rs := []) (by kernel_rfl) .nil (all_one ?_)
  refine o_gives rfl rfl rfl (gy (y_load1 ld_41 rfl m0 rfl)) rfl ?_
  intro _ _
  refine dV 8 rfl (y_fadd (a := (((((q.y + a1) + a3) + a5) + a7) + a9)) (b := a10) rfl rfl (by omega) (RF_F (by omega)) (by omega)) ?_
  refine dV 9 rfl (y_fieldAddr fo_50_1 rfl) ?_
  refine d_ready (i := 10) (rs := []) (by kernel_rfl) .nil (all_one ?_)
  refine o_does rfl rfl rfl (g_store1 (cs' := [_, _]) sz_41 rfl rfl rfl rfl rfl rfl .here) ?_
  intro _ _
  refine d_end (by kernel_rfl) .nil ?_
  refine qR ?_
  refine lM rfl ?_
  refine lV (y_loadN (vs := [_, _]) ld_50 rfl m5 rfl rfl) ?_
  refine lV (y_loadN (vs := [_, _]) ld_50 rfl m4 rfl rfl) ?_
  refine lV (y_loadN (vs := [_, _]) ld_50 rfl m3 rfl rfl) ?_
  refine lV (y_loadN (vs := [_, _]) ld_50 rfl m2 rfl rfl) ?_
  refine lV (y_loadN (vs := [_, _]) ld_50 rfl m1 rfl rfl) ?_
  refine lV (y_loadN (vs := [_, _]) ld_50 rfl m0 rfl rfl) ?_
  refine l_call ok_152 rfl rfl (out_tail (A := [_, _, _, _, _, _, _]) (H1 := (HB bH so q.out.length q.bx v5 v6 v7 q.x q.y q.fx q.fy q.io v13 ((q.bx).isSome) wd) :: slH so (encG q.out) 77) (fun w9 ha_ hb_ => f152_any w9 bH (M + 20 * 2147483648) q so v5 v6 v7 v13 wd (Nat.lt_of_le_of_lt (show (M + 20 * 2147483648) ≤ M + 60 * 2147483648 by omega) (by omega)) (hB0.mono (by omega)) (q.x + a0) (q.y + a1) ((q.x + a0) + a2) ((q.y + a1) + a3) (((q.x + a0) + a2) + a4) (((q.y + a1) + a3) + a5) ((((q.x + a0) + a2) + a4) + a6) ((((q.y + a1) + a3) + a5) + a7) (((((q.x + a0) + a2) + a4) + a6) + a8) (((((q.y + a1) + a3) + a5) + a7) + a9) q.x ((((((q.y + a1) + a3) + a5) + a7) + a9) + a10) (by omega) (by omega) (by omega) (by omega) (by omega) (by omega) (by omega) (by omega) (by omega) (by omega) (by omega) (by omega) hok (by omega) hb_)) ?_
  intro so_2 hok_2
  refine nR ?_
  refine lA rfl ?_
  refine nQ ?_
  refine c_ret ?_
  have hE2 : (curveA (curveA q (q.x + a0) (q.y + a1) ((q.x + a0) + a2) ((q.y + a1) + a3) (((q.x + a0) + a2) + a4) (((q.y + a1) + a3) + a5)) ((((q.x + a0) + a2) + a4) + a6) ((((q.y + a1) + a3) + a5) + a7) (((((q.x + a0) + a2) + a4) + a6) + a8) (((((q.y + a1) + a3) + a5) + a7) + a9) q.x ((((((q.y + a1) + a3) + a5) + a7) + a9) + a10)) = curveQ (curveQ q a0 a1 a2 a3 a4 a5) a6 a7 a8 a9 (-(a0 + a2 + a4 + a6 + a8)) a10 := curveQ_of (curveQ_of rfl (by omega) (by omega) (by omega) (by omega) (by omega) (by omega)) (by simp only [curveQ] <;> omega) (by simp only [curveQ] <;> omega) (by simp only [curveQ] <;> omega) (by simp only [curveQ] <;> omega) (by simp only [curveQ] <;> omega) (by simp only [curveQ] <;> omega)
  have hE3 : (curveA (curveA q (q.x + a0) (q.y + a1) ((q.x + a0) + a2) ((q.y + a1) + a3) (((q.x + a0) + a2) + a4) (((q.y + a1) + a3) + a5)) ((((q.x + a0) + a2) + a4) + a6) ((((q.y + a1) + a3) + a5) + a7) (((((q.x + a0) + a2) + a4) + a6) + a8) (((((q.y + a1) + a3) + a5) + a7) + a9) q.x ((((((q.y + a1) + a3) + a5) + a7) + a9) + a10)) = (bif decide (((a1 + a3 + a5 + a7 + a9).natAbs : Int) < (a0 + a2 + a4 + a6 + a8).natAbs) then curveQ (curveQ q a0 a1 a2 a3 a4 a5) a6 a7 a8 a9 a10 (-(a1 + a3 + a5 + a7 + a9)) else curveQ (curveQ q a0 a1 a2 a3 a4 a5) a6 a7 a8 a9 (-(a0 + a2 + a4 + a6 + a8)) a10) := by rw [hc120]; exact hE2
  rw [← hE3]
  exact body_ret (rs := [.tmp 4]) rfl (vs := [.nilIface]) ⟨rfl, trivial⟩ (out_end so_2 hok_2 rfl (.cons (.there (.there (.there (.there (.there (.there (.there .here))))))) (.skip (.skip (.skip (.skip (.skip (.skip (.skip .refl))))))))) _ (.inr rfl)
set_option maxHeartbeats 8000000 in
theorem ap_e37 (w : World) (bM bH M : Nat) (Mc : List Value) (lo gl : Value) (ins : Value) (fr : List Value) (vn hn : Nat) (v7 : Value) (sm : Bool) (a0 a1 a2 a3 a4 a5 a6 a7 a8 a9 a10 : Int) (hvn : vn ≤ 1000000) (hhn : hn ≤ 1000000) (wq : Int) (q : QSt) (so : Sv) (hst : [a0, a1, a2, a3, a4, a5, a6, a7, a8, a9, a10].length ≤ 48) (hq : ∀ q ∈ [a0, a1, a2, a3, a4, a5, a6, a7, a8, a9, a10], Opd q) (hm : MOk Mc lo gl ins fr [a0, a1, a2, a3, a4, a5, a6, a7, a8, a9, a10]) (hM : M + 120 * 2147483648 < 2 ^ 53) (hB : q.Bd M) (hok : slOk so q.out.length 7 (encG q.out)) (hlen : q.out.length ≤ 70000) (hw : Hp w (((bM, Mc, 95) :: (HB bH so q.out.length q.bx (.int .i32 (vn : Nat)) (.int .i32 (hn : Nat)) v7 q.x q.y q.fx q.fy q.io (.bool sm) ((q.bx).isSome) ([.float .f64 (F 0), .float .f64 (F wq)])) :: slH so (encG q.out) 77).map (·.1)) ((bM, Mc, 95) :: (HB bH so q.out.length q.bx (.int .i32 (vn : Nat)) (.int .i32 (hn : Nat)) v7 q.x q.y q.fx q.fy q.io (.bool sm) ((q.bx).isSome) ([.float .f64 (F 0), .float .f64 (F wq)])) :: slH so (encG q.out) 77) w) : Calls Tryz.prog 116 [.pointer (some ⟨bH, 0, none⟩), .pointer (some ⟨bM, 0, none⟩), .agg #[.int .u8 37, .bool true]].toArray w (Out w (((bM, Mc, 95) :: (HB bH so q.out.length q.bx (.int .i32 (vn : Nat)) (.int .i32 (hn : Nat)) v7 q.x q.y q.fx q.fy q.io (.bool sm) ((q.bx).isSome) ([.float .f64 (F 0), .float .f64 (F wq)])) :: slH so (encG q.out) 77).map (·.1)) (fun z : List Value × Int × Sv => MOk z.1 lo gl ins fr [] ∧ slOk z.2.2 (bif decide (((a1 + a3 + a5 + a7 + a9).natAbs : Int) < (a0 + a2 + a4 + a6 + a8).natAbs) then curveQ (curveQ q a0 a1 a2 a3 a4 a5) a6 a7 a8 a9 a10 (-(a1 + a3 + a5 + a7 + a9)) else curveQ (curveQ q a0 a1 a2 a3 a4 a5) a6 a7 a8 a9 (-(a0 + a2 + a4 + a6 + a8)) a10).out.length 7 (encG (bif decide (((a1 + a3 + a5 + a7 + a9).natAbs : Int) < (a0 + a2 + a4 + a6 + a8).natAbs) then curveQ (curveQ q a0 a1 a2 a3 a4 a5) a6 a7 a8 a9 a10 (-(a1 + a3 + a5 + a7 + a9)) else curveQ (curveQ q a0 a1 a2 a3 a4 a5) a6 a7 a8 a9 (-(a0 + a2 + a4 + a6 + a8)) a10).out)) (fun z => .nilIface) (fun z => (bM, z.1, 95) :: (HB bH z.2.2 (bif decide (((a1 + a3 + a5 + a7 + a9).natAbs : Int) < (a0 + a2 + a4 + a6 + a8).natAbs) then curveQ (curveQ q a0 a1 a2 a3 a4 a5) a6 a7 a8 a9 a10 (-(a1 + a3 + a5 + a7 + a9)) else curveQ (curveQ q a0 a1 a2 a3 a4 a5) a6 a7 a8 a9 (-(a0 + a2 + a4 + a6 + a8)) a10).out.length ((bif decide (((a1 + a3 + a5 + a7 + a9).natAbs : Int) < (a0 + a2 + a4 + a6 + a8).natAbs) then curveQ (curveQ q a0 a1 a2 a3 a4 a5) a6 a7 a8 a9 a10 (-(a1 + a3 + a5 + a7 + a9)) else curveQ (curveQ q a0 a1 a2 a3 a4 a5) a6 a7 a8 a9 (-(a0 + a2 + a4 + a6 + a8)) a10).bx) (.int .i32 (vn : Nat)) (.int .i32 (hn : Nat)) v7 ((bif decide (((a1 + a3 + a5 + a7 + a9).natAbs : Int) < (a0 + a2 + a4 + a6 + a8).natAbs) then curveQ (curveQ q a0 a1 a2 a3 a4 a5) a6 a7 a8 a9 a10 (-(a1 + a3 + a5 + a7 + a9)) else curveQ (curveQ q a0 a1 a2 a3 a4 a5) a6 a7 a8 a9 (-(a0 + a2 + a4 + a6 + a8)) a10).x) ((bif decide (((a1 + a3 + a5 + a7 + a9).natAbs : Int) < (a0 + a2 + a4 + a6 + a8).natAbs) then curveQ (curveQ q a0 a1 a2 a3 a4 a5) a6 a7 a8 a9 a10 (-(a1 + a3 + a5 + a7 + a9)) else curveQ (curveQ q a0 a1 a2 a3 a4 a5) a6 a7 a8 a9 (-(a0 + a2 + a4 + a6 + a8)) a10).y) ((bif decide (((a1 + a3 + a5 + a7 + a9).natAbs : Int) < (a0 + a2 + a4 + a6 + a8).natAbs) then curveQ (curveQ q a0 a1 a2 a3 a4 a5) a6 a7 a8 a9 a10 (-(a1 + a3 + a5 + a7 + a9)) else curveQ (curveQ q a0 a1 a2 a3 a4 a5) a6 a7 a8 a9 (-(a0 + a2 + a4 + a6 + a8)) a10).fx) ((bif decide (((a1 + a3 + a5 + a7 + a9).natAbs : Int) < (a0 + a2 + a4 + a6 + a8).natAbs) then curveQ (curveQ q a0 a1 a2 a3 a4 a5) a6 a7 a8 a9 a10 (-(a1 + a3 + a5 + a7 + a9)) else curveQ (curveQ q a0 a1 a2 a3 a4 a5) a6 a7 a8 a9 (-(a0 + a2 + a4 + a6 + a8)) a10).fy) ((bif decide (((a1 + a3 + a5 + a7 + a9).natAbs : Int) < (a0 + a2 + a4 + a6 + a8).natAbs) then curveQ (curveQ q a0 a1 a2 a3 a4 a5) a6 a7 a8 a9 a10 (-(a1 + a3 + a5 + a7 + a9)) else curveQ (curveQ q a0 a1 a2 a3 a4 a5) a6 a7 a8 a9 (-(a0 + a2 + a4 + a6 + a8)) a10).io) (.bool sm) (((bif decide (((a1 + a3 + a5 + a7 + a9).natAbs : Int) < (a0 + a2 + a4 + a6 + a8).natAbs) then curveQ (curveQ q a0 a1 a2 a3 a4 a5) a6 a7 a8 a9 a10 (-(a1 + a3 + a5 + a7 + a9)) else curveQ (curveQ q a0 a1 a2 a3 a4 a5) a6 a7 a8 a9 (-(a0 + a2 + a4 + a6 + a8)) a10).bx).isSome) ([.float .f64 (F 0), .float .f64 (F z.2.1)])) :: slH z.2.2 (encG (bif decide (((a1 + a3 + a5 + a7 + a9).natAbs : Int) < (a0 + a2 + a4 + a6 + a8).natAbs) then curveQ (curveQ q a0 a1 a2 a3 a4 a5) a6 a7 a8 a9 a10 (-(a1 + a3 + a5 + a7 + a9)) else curveQ (curveQ q a0 a1 a2 a3 a4 a5) a6 a7 a8 a9 (-(a0 + a2 + a4 + a6 + a8)) a10).out) 77)) := by
 have hml := hm.len
 have hms := hm.stl
 refine enter (n := 285) Tryz.func116 rfl rfl rfl hw ?_
 refine cR ?_
 refine l_gives rfl rfl (g_box (vs := [_, _]) rfl rfl) rfl ?_
 intro b5 hb5
 refine lA rfl ?_
 refine nR ?_
 refine lA rfl ?_
 refine nQ ?_
 refine c_seq ?_
 refine cR ?_
 refine lV (y_fieldAddr fo_117_1 rfl) ?_
 refine lV (y_load1 ld_4 rfl m0 rfl) ?_
 refine lV (y_not rfl) ?_
 refine nQ ?_
 refine c_false rfl rfl ?_
 refine cR ?_
 refine lV (y_fieldAddr fo_117_0 rfl) ?_
 refine lV (y_load1 ld_5 rfl m0 rfl) ?_
 refine nQ ?_
 refine c_block ?_
 refine cR ?_
 refine lB rfl rfl rfl rfl ?_
 refine lA rfl ?_
 refine nQ ?_
 refine c_false rfl rfl ?_
 refine cR ?_
 refine lB rfl rfl rfl rfl ?_
 refine lA rfl ?_
 refine nQ ?_
 refine c_false rfl rfl ?_
 refine cR ?_
 refine lB rfl rfl rfl rfl ?_
 refine lA rfl ?_
 refine nQ ?_
 refine c_false rfl rfl ?_
 refine cR ?_
 refine lB rfl rfl rfl rfl ?_
 refine lA rfl ?_
 refine nQ ?_
 refine c_true rfl rfl ?_
 refine c_region ?_
 refine lM rfl ?_
 refine lN rfl ?_
 refine lV (y_fieldAddr fo_99_0 rfl) ?_
 refine lM rfl ?_
 refine l_call ok_140 rfl rfl (out_tail (A := [_, _]) (H1 := (HB bH so q.out.length q.bx (.int .i32 (vn : Nat)) (.int .i32 (hn : Nat)) v7 q.x q.y q.fx q.fy q.io (.bool sm) ((q.bx).isSome) ([.float .f64 (F 0), .float .f64 (F wq)])) :: slH so (encG q.out) 77) (fun w9 ha_ hb_ => f140_any w9 bH bM M q so (.int .i32 (vn : Nat)) (.int .i32 (hn : Nat)) v7 (.bool sm) [.float .f64 (F 0), .float .f64 (F wq)] a0 a1 a2 a3 a4 a5 a6 a7 a8 a9 a10 hq hB hM hok hlen (RdM_own (ha_.sub (.skip .refl)) hm) hb_)) ?_
 intro so2 hok2
 refine lA rfl ?_
 refine l_nil ?_
 refine q_block ?_
 refine qR ?_
 refine lM rfl ?_
 refine lN rfl ?_
 refine lV (y_fieldAddr fo_95_4 rfl) ?_
 refine l_call ok_141 rfl rfl (out_one [_] (b := (bM, Mc, 95)) (fun w9 ha_ hb_ => f141_any w9 bM Mc _ _ _ _ _ hm hb_)) ?_
 intro _ _
 have hmC := hm.clear
 refine nR ?_
 refine lM rfl ?_
 refine lA rfl ?_
 refine nQ ?_
 refine c_ret ?_
 exact body_ret (rs := [.tmp 6]) rfl (vs := [.nilIface]) ⟨rfl, trivial⟩ (out_end ((Mc.set 527 (.int .i32 0)), wq, so2) ⟨hmC, hok2⟩ rfl (.skip .refl)) _ (.inr rfl)
end Go.Proofs.YtbepljmeflndkaaGreatDoor
namespace Go.Proofs.YtbepljmeflndkaaGreatDoor
open Go.Eng Go.Fl
set_option maxRecDepth 100000
attribute [local irreducible] IntKind.wrap Int.tdiv Int.tmod Int.emod maxLen F G
theorem f115_any (w : World) (cs : List Value) : Calls Tryz.prog 115 [.agg cs.toArray].toArray w (Out w [] (fun z : Unit => True) (fun z => .int .u32 2) (fun z => [])) := by
 refine enter (n := 3) Tryz.func115 rfl rfl rfl (Hp.refl w) ?_
 refine cR ?_
 refine l_gives rfl rfl (g_box (vs := cs) rfl (by simp [Value.cells])) rfl ?_
 intro b1 hb1
 refine lA rfl ?_
 refine nR ?_
 refine lA rfl ?_
 refine nQ ?_
 refine c_ret ?_
 exact body_ret (rs := [.tmp 2]) rfl (vs := [.int .u32 2]) ⟨rfl, trivial⟩ (out_end () trivial rfl .nil) _ (.inr rfl)
end Go.Proofs.YtbepljmeflndkaaGreatDoor
namespace Go.Proofs.YtbepljmeflndkaaGreatDoor
open Go.Eng Go.Fl
theorem in103 : Tryz.prog.info? 103 = some Tryz.t103 := by kernel_rfl
theorem un103 : Tryz.prog.underlying 103 = some (.pointer 99) := by kernel_rfl
theorem fiA : Tryz.t103.methods.find? (fun m => m.name == "Apply") = some { name := "Apply", sig := 115, path := #[], func := some (116, true) } := by kernel_rfl
theorem fiC : Tryz.t103.methods.find? (fun m => m.name == "Context") = some { name := "Context", sig := 111, path := #[], func := some (115, false) } := by kernel_rfl
theorem ld_99' : ldSize Tryz.prog 99 = some (some 17) := by kernel_rfl
theorem methA (k : Nat) (p : Addr) (w : World) : (Go.method (k + 1) 103 (.pointer (some p)) "Apply").run Tryz.prog w = .ok (116, .pointer (some p)) w := by
  unfold Go.method
  simp [typeInfo, in103, fiA, Go.follow, Go.receiverAt, run_underlying un103, Go.Place.get]
theorem wrapOk (ts : Array TypeId) (t : TypeId) (p : Addr) (a b : ByteArray) (w : World) : (Builtin.ssaWrapNilChk_ ts t #[.pointer (some p), .string a, .string b]).run Tryz.prog w = .ok (.pointer (some p)) w := rfl
theorem methC (k : Nat) (p : Addr) (vs : Array Value) (w : World) (hl : (Instr.loadAt 99 (.pointer (some p))).run Tryz.prog w = .ok (.agg vs) w) : (Go.method (k + 1) 103 (.pointer (some p)) "Context").run Tryz.prog w = .ok (115, .agg vs) w := by
  have h2 := run_loadVar_of hl
  unfold Go.method
  simp [typeInfo, in103, fiC, Go.follow, Go.receiverAt, run_underlying un103, Go.Place.get, asAddr, h2, strVal, wrapOk]
theorem fuelE : Tryz.prog.types.size + Made.depth = 355 + 1 := by kernel_rfl
/-- Apply, called through the interface. -/
theorem callA (p : Addr) (args : Array Value) (w : World) : (callMethod (.iface 103 (.pointer (some p))) "Apply" args).run Tryz.prog w = .ok (.enter 116 (#[.pointer (some p)] ++ args)) w := by
  have hk : callOk Tryz.prog 116 = true := ok_116
  unfold callOk at hk
  split at hk
  · rename_i fn hfn
    simp only [Bool.and_eq_true, beq_iff_eq] at hk
    have hc : ∀ xs, (callFunc 116 xs).run Tryz.prog w = .ok (.enter 116 xs) w := by
      intro xs
      unfold callFunc
      simp only [Sem.run_bind, run_program, Result.andThen_ok, hfn, hk.1, hk.2, Bool.false_eq_true, if_false, Sem.run_pure]
    unfold callMethod
    simp only [Sem.run_bind, run_program, Result.andThen_ok, fuelE, methA, hc, Sem.run_pure]
  · cases hk
theorem callC (p : Addr) (vs : Array Value) (w : World) (hl : (Instr.loadAt 99 (.pointer (some p))).run Tryz.prog w = .ok (.agg vs) w) : (callMethod (.iface 103 (.pointer (some p))) "Context" #[]).run Tryz.prog w = .ok (.enter 115 #[.agg vs]) w := by
  have hk : callOk Tryz.prog 115 = true := ok_115
  unfold callOk at hk
  split at hk
  · rename_i fn hfn
    simp only [Bool.and_eq_true, beq_iff_eq] at hk
    have hc : ∀ xs, (callFunc 115 xs).run Tryz.prog w = .ok (.enter 115 xs) w := by
      intro xs
      unfold callFunc
      simp only [Sem.run_bind, run_program, Result.andThen_ok, hfn, hk.1, hk.2, Bool.false_eq_true, if_false, Sem.run_pure]
    unfold callMethod
    simp only [Sem.run_bind, run_program, Result.andThen_ok, fuelE, methC _ p vs w hl, hc, Sem.run_pure]
    rfl
  · cases hk
section
variable {Q : Exit → Act → World → Prop} {n : Nat} {D : List Deferred} {w0 : World} {S : List Nat} {L : Slots} {H : Heap} {ops : Array Oper} {rest : List Oper}
theorem l_apply {x : Operand} {p : Addr} {args : Array Operand} {tys : Array TypeId} {vals : List Value} {ι : Type} {φ : ι → Prop} {vv : ι → Value} {H' : ι → Heap} {dst : Nat} {ty : TypeId} {pos : String} {af : Array Edge}
    (hx : ev L x = some (.iface 103 (.pointer (some p)))) (hargs : evs L args.toList = some vals) (hn : Nat.blt dst n = true) (hc : ∀ w, Hp w0 S H w → Calls Tryz.prog 116 (.pointer (some p) :: vals).toArray w (Out w0 S φ vv H'))
    (h : ∀ y, φ y → Wl Tryz.prog Q n D w0 S ops rest ((dst, vv y) :: L) (H' y)) :
    Wl Tryz.prog Q n D w0 S ops (⟨some dst, .call { callee := .invoke x "Apply", args, argTypes := tys }, ty, pos, af, none⟩ :: rest) L H := by
  intro a w ha hw
  refine wpList_plain rfl fun K hK => ?_
  unfold Oper.wp
  have h1 : args.map a.eval = vals.toArray := by
    rw [← ha.evs_eq _ _ hargs]
    apply Array.toList_inj.1
    simp
  have hrun : (execOp a.eval ⟨some dst, .call { callee := .invoke x "Apply", args, argTypes := tys }, ty, pos, af, none⟩).run Tryz.prog w = .ok (.enter 116 (.pointer (some p) :: vals).toArray) w := by
    have h2 : (#[Value.iface 103 (.pointer (some p))] ++ vals.toArray)[0]? = some (.iface 103 (.pointer (some p))) := by simp
    have h3 : (#[Value.iface 103 (.pointer (some p))] ++ vals.toArray).extract 1 (#[Value.iface 103 (.pointer (some p))] ++ vals.toArray).size = vals.toArray := by
      apply Array.toList_inj.1; simp
    have h4 : #[Value.pointer (some p)] ++ vals.toArray = (Value.pointer (some p) :: vals).toArray := by simp
    simp only [execOp, resolve, ha.ev_eq hx, invoke, Sem.run_bind, Sem.run_pure, Result.andThen_ok, h1, h2, h3, callA, h4]
  rw [hrun, Oper.upon_enter]
  refine (hc w hw).mono fun e w' he => ?_
  obtain ⟨y, hy, rfl, hH⟩ := he
  exact hK _ _ (h y hy _ _ (ha.put hn _) hH)
theorem l_context {x : Operand} {g : Nat} {cs : List Value} {ι : Type} {φ : ι → Prop} {vv : ι → Value} {H' : ι → Heap} {dst : Nat} {ty : TypeId} {pos : String} {af : Array Edge}
    (hx : ev L x = some (.iface 103 (.pointer (some ⟨g, 0, none⟩)))) (hm : (g, cs, 99) ∈ H) (hcs : cs.length = 17) (hn : Nat.blt dst n = true) (hc : ∀ w, Hp w0 S H w → Calls Tryz.prog 115 [.agg cs.toArray].toArray w (Out w0 S φ vv H'))
    (h : ∀ y, φ y → Wl Tryz.prog Q n D w0 S ops rest ((dst, vv y) :: L) (H' y)) :
    Wl Tryz.prog Q n D w0 S ops (⟨some dst, .call { callee := .invoke x "Context", args := #[], argTypes := #[] }, ty, pos, af, none⟩ :: rest) L H := by
  intro a w ha hw
  refine wpList_plain rfl fun K hK => ?_
  unfold Oper.wp
  have hl : (Instr.loadAt 99 (.pointer (some ⟨g, 0, none⟩))).run Tryz.prog w = .ok (.agg cs.toArray) w :=
    run_loadAtN ld_99' (a := ⟨g, 0, none⟩) hcs (fun j v hj => by rw [Addr.add_lit, hw.cell hm, Nat.zero_add]; exact hj)
  have hrun : (execOp a.eval ⟨some dst, .call { callee := .invoke x "Context", args := #[], argTypes := #[] }, ty, pos, af, none⟩).run Tryz.prog w = .ok (.enter 115 [.agg cs.toArray].toArray) w := by
    have h2 : (#[Value.iface 103 (.pointer (some ⟨g, 0, none⟩))] ++ (#[] : Array Value))[0]? = some (.iface 103 (.pointer (some ⟨g, 0, none⟩))) := by simp
    have h3 : (#[Value.iface 103 (.pointer (some ⟨g, 0, none⟩))] ++ (#[] : Array Value)).extract 1 (#[Value.iface 103 (.pointer (some ⟨g, 0, none⟩))] ++ (#[] : Array Value)).size = #[] := by
      apply Array.toList_inj.1; simp
    have h5 : (#[] : Array Operand).map a.eval = #[] := by simp
    simp only [execOp, resolve, ha.ev_eq hx, invoke, Sem.run_bind, Sem.run_pure, Result.andThen_ok, h5, h2, h3, callC _ _ w hl]
  rw [hrun, Oper.upon_enter]
  refine (hc w hw).mono fun e w' he => ?_
  obtain ⟨y, hy, rfl, hH⟩ := he
  exact hK _ _ (h y hy _ _ (ha.put hn _) hH)
end
/-- A piece of an outline, as numbers. -/
inductive IS where
  | mv (x y : Int)
  | ln (x y : Int)
  | cv (x0 y0 x1 y1 x2 y2 : Int)
def IS.stk : IS → Stk
  | .mv x y => stk1 0 x y
  | .ln x y => stk1 1 x y
  | .cv x0 y0 x1 y1 x2 y2 => stk3 3 x0 y0 x1 y1 x2 y2
def IS.pts : IS → List (Int × Int)
  | .mv x y => [(x, y)]
  | .ln x y => [(x, y)]
  | .cv x0 y0 x1 y1 x2 y2 => [(x0, y0), (x1, y1), (x2, y2)]
def IS.isMv : IS → Bool
  | .mv _ _ => true
  | _ => false
/-- The points that bounds hold. -/
def bpts : List IS → List (Int × Int)
  | [] => []
  | s :: r => (bif s.isMv && (match r with | [] => true | t :: _ => t.isMv) then [] else s.pts) ++ bpts r
def bnd (l : List (Int × Int)) : Bx := l.foldl (fun b p => enl b p.1 p.2) none
theorem bnd_snoc (l : List (Int × Int)) (p : Int × Int) : bnd (l ++ [p]) = enl (bnd l) p.1 p.2 := by simp [bnd, List.foldl_append]
theorem bpts_mv (l : List IS) (x y : Int) : bpts (l ++ [.mv x y]) = bpts l := by
  induction l with
  | nil => rfl
  | cons s r ih =>
    show (bif s.isMv && _ then [] else s.pts) ++ bpts (r ++ [.mv x y]) = _
    rw [ih]
    cases r with
    | nil => cases s <;> rfl
    | cons t r => rfl
theorem bpts_snoc (l : List IS) (s : IS) (hs : s.isMv = false) (hl : ∀ t, l.getLast? = some t → t.isMv = false) : bpts (l ++ [s]) = bpts l ++ s.pts := by
  induction l with
  | nil => cases s <;> first | rfl | cases hs
  | cons t r ih =>
    cases r with
    | nil =>
      have ht : t.isMv = false := hl t rfl
      show (bif t.isMv && s.isMv then [] else t.pts) ++ ((bif s.isMv && true then [] else s.pts) ++ []) = ((bif t.isMv && true then [] else t.pts) ++ []) ++ s.pts
      rw [ht, hs]; simp
    | cons u r =>
      have := ih (fun t ht => hl t (by rw [List.getLast?_cons_cons]; exact ht))
      show (bif t.isMv && u.isMv then [] else t.pts) ++ bpts ((u :: r) ++ [s]) = ((bif t.isMv && u.isMv then [] else t.pts) ++ bpts (u :: r)) ++ s.pts
      rw [this, List.append_assoc]
theorem bpts_after (l : List IS) (x y : Int) (s : IS) (hs : s.isMv = false) : bpts (l ++ [.mv x y] ++ [s]) = bpts l ++ [(x, y)] ++ s.pts := by
  induction l with
  | nil => cases s <;> first | rfl | cases hs
  | cons t r ih =>
    have e : ∀ X : List IS, bpts (t :: (r ++ [.mv x y] ++ X)) = (bif t.isMv && (match r with | [] => true | u :: _ => u.isMv) then [] else t.pts) ++ bpts (r ++ [.mv x y] ++ X) := by
      intro X
      cases r with
      | nil => rfl
      | cons u r => rfl
    show bpts (t :: (r ++ [.mv x y] ++ [s])) = _
    rw [e, ih]
    show _ = ((bif t.isMv && _ then [] else t.pts) ++ bpts r) ++ [(x, y)] ++ s.pts
    simp only [List.append_assoc]
    cases r <;> rfl
/-- A point among others does not widen the bounds. -/
def inB (b : Bx) (p : Int × Int) : Prop := ∃ x0 y0 x1 y1, b = some (x0, y0, x1, y1) ∧ x0 ≤ p.1 ∧ y0 ≤ p.2 ∧ p.1 ≤ x1 ∧ p.2 ≤ y1
theorem inB_enl {b : Bx} {p : Int × Int} (h : inB b p) (x y : Int) : inB (enl b x y) p := by
  obtain ⟨x0, y0, x1, y1, rfl, h1, h2, h3, h4⟩ := h
  exact ⟨_, _, _, _, rfl, by omega, by omega, by omega, by omega⟩
theorem inB_self (b : Bx) (x y : Int) : inB (enl b x y) (x, y) := by
  cases b with
  | none => exact ⟨_, _, _, _, rfl, Int.le_refl _, Int.le_refl _, Int.le_refl _, Int.le_refl _⟩
  | some q =>
    obtain ⟨a, b, c, d⟩ := q
    exact ⟨_, _, _, _, rfl, by simp only; omega, by simp only; omega, by simp only; omega, by simp only; omega⟩
theorem inB_fold : ∀ (l : List (Int × Int)) (b : Bx) (p : Int × Int), inB b p ∨ p ∈ l → inB (l.foldl (fun b p => enl b p.1 p.2) b) p := by
  intro l
  induction l with
  | nil => intro b p h; rcases h with h | h; exact h; cases h
  | cons q r ih =>
    intro b p h
    refine ih _ p ?_
    rcases h with h | h
    · exact .inl (inB_enl h _ _)
    · rcases List.mem_cons.1 h with rfl | h
      · exact .inl (inB_self _ _ _)
      · exact .inr h
theorem enl_in {b : Bx} {x y : Int} (h : inB b (x, y)) : enl b x y = b := by
  obtain ⟨x0, y0, x1, y1, rfl, h1, h2, h3, h4⟩ := h
  simp only at h1 h2 h3 h4
  show some (min x0 x, min y0 y, max x1 x, max y1 y) = _
  rw [Int.min_eq_left h1, Int.min_eq_left h2, Int.max_eq_left h3, Int.max_eq_left h4]
theorem bnd_again {l : List (Int × Int)} {x y : Int} (h : (x, y) ∈ l) : bnd (l ++ [(x, y)]) = bnd l := by
  rw [bnd_snoc]; exact enl_in (inB_fold l none (x, y) (.inr h))
/-- The reference's pen and the package's. -/
structure RelL (p : PSt) (q : QSt) (l : List IS) : Prop where
  x : q.x = p.x
  y : q.y = p.y
  fx : q.fx = p.fx
  fy : q.fy = p.fy
  out : q.out = p.out
  cl : p.o = false → p.x = p.fx ∧ p.y = p.fy
  op : p.o = true → l ≠ []
  ls : q.out = l.map IS.stk
  bx : q.bx = bnd (bpts l)
  on : q.io = true → (∀ t, l.getLast? = some t → t.isMv = false) ∧ (q.fx, q.fy) ∈ bpts l
  off : q.io = false → (l = [] ∨ ∃ l0, l = l0 ++ [.mv q.x q.y]) ∧ q.x = q.fx ∧ q.y = q.fy
/-- The points that contours begin at are not too far. -/
def MvB (l : List IS) : Prop := ∀ x y, IS.mv x y ∈ l → x.natAbs ≤ 257698037760000 ∧ y.natAbs ≤ 257698037760000
theorem MvB.run {l : List IS} {s : IS} (h : MvB l) (hs : s.isMv = false) : MvB (l ++ [s]) := by
  intro x y hm
  rcases List.mem_append.1 hm with hm | hm
  · exact h x y hm
  · rw [List.mem_singleton] at hm; subst hm; cases hs
theorem MvB.mv {l : List IS} {x y : Int} (h : MvB l) (hx : x.natAbs ≤ 257698037760000) (hy : y.natAbs ≤ 257698037760000) : MvB (l ++ [.mv x y]) := by
  intro x' y' hm
  rcases List.mem_append.1 hm with hm | hm
  · exact h x' y' hm
  · rw [List.mem_singleton] at hm; injection hm with e1 e2; subst e1 e2; exact ⟨hx, hy⟩
def RelP (p : PSt) (q : QSt) : Prop := ∃ l, RelL p q l ∧ MvB l
theorem last_snoc {l : List IS} {s t : IS} (h : (l ++ [s]).getLast? = some t) : t = s := by rw [List.getLast?_concat] at h; injection h with h; exact h.symm
/-- A piece more. -/
theorem RelL.piece {p p' : PSt} {q q' : QSt} {l : List IS} (h : RelL p q l) (ho : p.o = true) (s : IS) (hs : s.isMv = false) (h1 : q'.x = p'.x) (h2 : q'.y = p'.y) (h3 : q'.fx = q.fx ∧ q'.fy = q.fy ∧ p'.fx = p.fx ∧ p'.fy = p.fy) (h4 : p'.o = p.o)
    (h5 : q'.out = q.out ++ [s.stk]) (h6 : p'.out = p.out ++ [s.stk]) (h7 : q'.bx = s.pts.foldl (fun b p => enl b p.1 p.2) (beg q)) (h8 : q'.io = true) : RelL p' q' (l ++ [s]) := by
  have hb : q'.bx = bnd (bpts (l ++ [s])) ∧ (q.fx, q.fy) ∈ bpts (l ++ [s]) := by
    cases hio : q.io with
    | true =>
      obtain ⟨hl, hm⟩ := h.on hio
      rw [bpts_snoc l s hs hl]
      refine ⟨?_, List.mem_append_left _ hm⟩
      rw [h7]; unfold beg bnd; rw [hio, cond_true, h.bx, List.foldl_append]; rfl
    | false =>
      obtain ⟨hl, e1, e2⟩ := h.off hio
      rcases hl with hl | ⟨l0, hl⟩
      · exact absurd hl (h.op ho)
      · have hbx := h.bx
        rw [hl, bpts_mv] at hbx
        rw [hl, bpts_after l0 q.x q.y s hs]
        refine ⟨?_, List.mem_append_left _ (List.mem_append_right _ (by rw [e1, e2]; simp))⟩
        rw [h7]; unfold beg bnd; rw [hio, cond_false, hbx, List.foldl_append, List.foldl_append]; rfl
  refine ⟨h1, h2, by rw [h3.1, h3.2.2.1, h.fx], by rw [h3.2.1, h3.2.2.2, h.fy], by rw [h5, h6, h.out], fun hc => ?_, fun _ => by simp, by rw [h5, h.ls, List.map_append]; rfl, hb.1, fun _ => ⟨fun t ht => by rw [last_snoc ht]; exact hs, by rw [h3.1, h3.2.1]; exact hb.2⟩, fun hc => by rw [h8] at hc; cases hc⟩
  rw [h4, ho] at hc; cases hc
theorem RelP.line {p : PSt} {q : QSt} (h : RelP p q) (ho : p.o = true) (a b : Int) : RelP (lineP p a b) (lineQ q a b) := by
  obtain ⟨l, h, hv⟩ := h
  refine ⟨_, h.piece ho (.ln (q.x + a) (q.y + b)) rfl ?_ ?_ ⟨rfl, rfl, rfl, rfl⟩ rfl rfl ?_ rfl rfl, hv.run rfl⟩
  · show q.x + a = p.x + a; rw [h.x]
  · show q.y + b = p.y + b; rw [h.y]
  · show p.out ++ [stk1 1 (p.x + a) (p.y + b)] = p.out ++ [stk1 1 (q.x + a) (q.y + b)]; rw [h.x, h.y]
theorem RelP.curve {p : PSt} {q : QSt} (h : RelP p q) (ho : p.o = true) (a b c d e f : Int) : RelP (curveP p a b c d e f) (curveQ q a b c d e f) := by
  obtain ⟨l, h, hv⟩ := h
  refine ⟨_, h.piece ho (.cv (q.x + a) (q.y + b) (q.x + a + c) (q.y + b + d) (q.x + a + c + e) (q.y + b + d + f)) rfl ?_ ?_ ⟨rfl, rfl, rfl, rfl⟩ rfl rfl ?_ rfl rfl, hv.run rfl⟩
  · show q.x + a + c + e = p.x + a + c + e; rw [h.x]
  · show q.y + b + d + f = p.y + b + d + f; rw [h.y]
  · show p.out ++ [_] = p.out ++ [_]; rw [h.x, h.y]; rfl
/-- A contour closed. -/
theorem RelL.close {p : PSt} {q : QSt} {l : List IS} (h : RelL p q l) (hv : MvB l) : ∃ l', MvB l' ∧ (closeQ q).out = (closeP p).out ∧ (closeQ q).out = l'.map IS.stk ∧ (closeQ q).bx = bnd (bpts l') := by
  have hg : gap q = clo p.o p.x p.y p.fx p.fy := by
    unfold gap clo
    rw [h.x, h.y, h.fx, h.fy]
    cases ho : p.o with
    | true => by_cases e1 : p.fx = p.x <;> by_cases e2 : p.fy = p.y <;> simp [e1, e2, Ne.symm, eq_comm] <;> omega
    | false => obtain ⟨e1, e2⟩ := h.cl ho; simp [e1, e2]
  have ho : (closeQ q).out = (closeP p).out := by
    show (bif gap q then q.out ++ [stk1 1 q.fx q.fy] else q.out) = cloOut (clo p.o p.x p.y p.fx p.fy) p.fx p.fy p.out
    rw [hg]; unfold cloOut; rw [h.out, h.fx, h.fy]
  cases hgq : gap q with
  | false =>
    refine ⟨l, hv, ho, ?_, h.bx⟩
    show (bif gap q then _ else q.out) = _
    rw [hgq]; exact h.ls
  | true =>
    have hio : q.io = true := by
      cases hio : q.io with
      | true => rfl
      | false => obtain ⟨_, e1, e2⟩ := h.off hio; unfold gap at hgq; simp [e1, e2] at hgq
    obtain ⟨hl, hm⟩ := h.on hio
    refine ⟨l ++ [.ln q.fx q.fy], hv.run rfl, ho, ?_, ?_⟩
    · show (bif gap q then q.out ++ [stk1 1 q.fx q.fy] else q.out) = _
      rw [hgq, cond_true, List.map_append, h.ls]; rfl
    · show q.bx = _
      rw [bpts_snoc l _ rfl hl, h.bx]; exact (bnd_again hm).symm
theorem RelP.move {p : PSt} {q : QSt} (h : RelP p q) (a b : Int) (hx : (q.x + a).natAbs ≤ 257698037760000) (hy : (q.y + b).natAbs ≤ 257698037760000) : RelP (moveP p a b) (moveQ q a b) := by
  obtain ⟨l, h, hv⟩ := h
  obtain ⟨l', hv', e1, e2, e3⟩ := h.close hv
  refine ⟨l' ++ [.mv (q.x + a) (q.y + b)], ⟨?_, ?_, ?_, ?_, ?_, fun hc => (by cases hc), fun _ => by simp, ?_, ?_, fun hc => (by cases hc), fun _ => ⟨.inr ⟨l', rfl⟩, rfl, rfl⟩⟩, hv'.mv hx hy⟩
  · show q.x + a = p.x + a; rw [h.x]
  · show q.y + b = p.y + b; rw [h.y]
  · show q.x + a = p.x + a; rw [h.x]
  · show q.y + b = p.y + b; rw [h.y]
  · show (closeQ q).out ++ [_] = (closeP p).out ++ [_]; rw [e1, h.x, h.y]
  · show (closeQ q).out ++ [_] = _; rw [e2, List.map_append]; rfl
  · show q.bx = _; rw [bpts_mv]; exact e3
/-- The end: the same pieces, and the bounds that they have. -/
theorem RelP.fin {p : PSt} {q : QSt} (h : RelP p q) : ∃ l, (endQ q).out = (closeP p).out ∧ ((closeP p).out = l.map IS.stk ∧ MvB l) ∧ (endQ q).bx = bnd (bpts l) := by
  obtain ⟨l, h, hv⟩ := h
  obtain ⟨l', hv', e1, e2, e3⟩ := h.close hv
  exact ⟨l', e1, ⟨e1 ▸ e2, hv'⟩, e3⟩
theorem RelP.lines : ∀ {l : List Int} {p : PSt} {q : QSt}, RelP p q → p.o = true → RelP (linesP p l) (linesQ q l) ∧ (linesP p l).o = true
  | [], _, _, h, ho => ⟨h, ho⟩
  | [_], _, _, h, ho => ⟨h, ho⟩
  | a :: b :: r, _, _, h, ho => RelP.lines (l := r) (h.line ho a b) ho
theorem RelP.curves : ∀ {l : List Int} {p : PSt} {q : QSt}, RelP p q → p.o = true → RelP (curvesP p l) (curvesQ q l) ∧ (curvesP p l).o = true
  | a :: b :: c :: d :: e :: f :: r, _, _, h, ho => RelP.curves (l := r) (h.curve ho a b c d e f) ho
  | [], _, _, h, ho => ⟨h, ho⟩
  | [_], _, _, h, ho => ⟨h, ho⟩
  | [_, _], _, _, h, ho => ⟨h, ho⟩
  | [_, _, _], _, _, h, ho => ⟨h, ho⟩
  | [_, _, _, _], _, _, h, ho => ⟨h, ho⟩
  | [_, _, _, _, _], _, _, h, ho => ⟨h, ho⟩
theorem RelP.hv : ∀ {l : List Int} {lv : Bool} {p : PSt} {q : QSt}, RelP p q → p.o = true → RelP (hvP lv p l) (hvQ lv q l) ∧ (hvP lv p l).o = true
  | [], _, _, _, h, ho => ⟨h, ho⟩
  | a :: r, true, _, _, h, ho => RelP.hv (l := r) (h.line ho a 0) ho
  | a :: r, false, _, _, h, ho => RelP.hv (l := r) (h.line ho 0 a) ho
theorem RelP.straight : ∀ {l : List Int} {lv : Bool} {q0 : Int} {p : PSt} {q : QSt}, RelP p q → p.o = true → RelP (straightP lv p q0 l) (straightQ lv q q0 l) ∧ (straightP lv p q0 l).o = true
  | a :: b :: c :: d :: r, true, q0, _, _, h, ho => RelP.straight (l := r) (h.curve ho a q0 b c d 0) ho
  | a :: b :: c :: d :: r, false, q0, _, _, h, ho => RelP.straight (l := r) (h.curve ho q0 a b c 0 d) ho
  | [], _, _, _, _, h, ho => ⟨h, ho⟩
  | [_], _, _, _, _, h, ho => ⟨h, ho⟩
  | [_, _], _, _, _, _, h, ho => ⟨h, ho⟩
  | [_, _, _], _, _, _, _, h, ho => ⟨h, ho⟩
theorem RelP.straightS {l : List Int} {lv : Bool} {p : PSt} {q : QSt} (h : RelP p q) (ho : p.o = true) : RelP (straightS lv p l) (straightSQ lv q l) ∧ (straightS lv p l).o = true := by
  unfold Go.Proofs.YtbepljmeflndkaaGreatDoor.straightS straightSQ
  cases l.length % 4 == 1
  · exact h.straight ho
  · exact h.straight ho
theorem RelP.turning : ∀ (n : Nat) {l : List Int} {lv : Bool} {p : PSt} {q : QSt}, l.length ≤ n → RelP p q → p.o = true → RelP (turningP lv p l) (turningQ lv q l) ∧ (turningP lv p l).o = true := by
  intro n
  induction n with
  | zero => intro l lv p q hl h ho; rw [turning_short (by omega), turningQ_short (by omega)]; exact ⟨h, ho⟩
  | succ n ih =>
    intro l lv p q hl h ho
    by_cases h4 : l.length < 4
    · rw [turning_short h4, turningQ_short h4]; exact ⟨h, ho⟩
    · obtain ⟨a, b, c, d, r, rfl⟩ := cons4 (l := l) (by omega)
      rw [turning_step, turningQ_step]
      simp only [List.length_cons] at hl
      cases lv
      · exact ih (by omega) (h.curve ho 0 a b c d (lastQ r)) ho
      · exact ih (by omega) (h.curve ho a 0 b c (lastQ r) d) ho
/-- What the package's operators that draw make of its pen. -/
def pathQ (v : Nat) (q : QSt) (l : List Int) : QSt :=
  if v = 5 then linesQ q l else if v = 6 ∨ v = 7 then hvQ (v == 6) q l else if v = 8 then curvesQ q l
  else if v = 24 then linesQ (curvesQ q (l.take (l.length - 2))) (l.drop (l.length - 2)) else if v = 25 then curvesQ (linesQ q (l.take (l.length - 6))) (l.drop (l.length - 6))
  else if v = 26 ∨ v = 27 then straightSQ (v == 27) q l else turningQ (v == 31) q l
theorem RelP.path {v : Nat} {p p' : PSt} {q : QSt} {l : List Int} (h : RelP p q) (ho : p.o = true) (hp : pathP v p l = some p') : RelP p' (pathQ v q l) ∧ p'.o = true := by
  unfold pathP at hp
  unfold pathQ
  split at hp
  · rw [if_pos (by assumption)]
    split at hp
    · injection hp with hp; subst hp; exact h.lines ho
    · cases hp
  rw [if_neg (by assumption)]
  split at hp
  · rw [if_pos (by assumption)]
    split at hp
    · injection hp with hp; subst hp; exact h.hv ho
    · cases hp
  rw [if_neg (by assumption)]
  split at hp
  · rw [if_pos (by assumption)]
    split at hp
    · injection hp with hp; subst hp; exact h.curves ho
    · cases hp
  rw [if_neg (by assumption)]
  split at hp
  · rw [if_pos (by assumption)]
    split at hp
    · injection hp with hp; subst hp
      obtain ⟨h1, o1⟩ := h.curves (l := l.take (l.length - 2)) ho
      exact h1.lines o1
    · cases hp
  rw [if_neg (by assumption)]
  split at hp
  · rw [if_pos (by assumption)]
    split at hp
    · injection hp with hp; subst hp
      obtain ⟨h1, o1⟩ := h.lines (l := l.take (l.length - 6)) ho
      exact h1.curves o1
    · cases hp
  rw [if_neg (by assumption)]
  split at hp
  · rw [if_pos (by assumption)]
    split at hp
    · injection hp with hp; subst hp; exact h.straightS ho
    · cases hp
  rw [if_neg (by assumption)]
  split at hp
  · split at hp
    · injection hp with hp; subst hp; exact h.turning _ (Nat.le_refl _) ho
    · cases hp
  · cases hp
def flexQ (v : Nat) (q : QSt) (l : List Int) : QSt :=
  match l with
  | [a, b, c, d, e, f, g] => curveQ (curveQ q a 0 b c d 0) e 0 f (-c) g 0
  | [a, b, c, d, e, f, g, h, i] => curveQ (curveQ q a b c d e 0) f 0 g h i (-(b + d + h))
  | [a, b, c, d, e, f, g, h, i, j, k] => bif decide (((b + d + f + h + j).natAbs : Int) < (a + c + e + g + i).natAbs) then curveQ (curveQ q a b c d e f) g h i j k (-(b + d + f + h + j)) else curveQ (curveQ q a b c d e f) g h i j (-(a + c + e + g + i)) k
  | [a, b, c, d, e, f, g, h, i, j, k, m, _] => curveQ (curveQ q a b c d e f) g h i j k m
  | _ => q
theorem max_abs_eq (x : Int) : max x (-x) = (x.natAbs : Int) := by omega
theorem RelP.flex {v : Nat} {p p' : PSt} {q : QSt} {l : List Int} (h : RelP p q) (ho : p.o = true) (hp : flexP v p l = some p') : RelP p' (flexQ v q l) ∧ p'.o = true := by
  unfold flexP at hp
  unfold flexQ
  split at hp
  · split at hp
    · injection hp with hp; subst hp; exact ⟨(h.curve ho _ _ _ _ _ _).curve ho _ _ _ _ _ _, ho⟩
    · cases hp
  · split at hp
    · injection hp with hp; subst hp; exact ⟨(h.curve ho _ _ _ _ _ _).curve ho _ _ _ _ _ _, ho⟩
    · cases hp
  · rename_i a b c d e f g h' i j k
    split at hp
    · injection hp with hp; subst hp
      rw [max_abs_eq, max_abs_eq]
      dsimp only
      generalize decide (((b + d + f + h' + j).natAbs : Int) < (a + c + e + g + i).natAbs) = B
      cases B
      · exact ⟨(h.curve ho _ _ _ _ _ _).curve ho _ _ _ _ _ _, ho⟩
      · exact ⟨(h.curve ho _ _ _ _ _ _).curve ho _ _ _ _ _ _, ho⟩
    · cases hp
  · split at hp
    · injection hp with hp; subst hp; exact ⟨(h.curve ho _ _ _ _ _ _).curve ho _ _ _ _ _ _, ho⟩
    · cases hp
  · cases hp
theorem lineQ_bd {p : QSt} {M : Nat} {a b : Int} (h : p.Bd M) (ha : Opd a) (hb : Opd b) : (lineQ p a b).Bd (M + 2147483648) := by
  have hx := nb h.x
  have hy := nb h.y
  have ha' := nb ha
  have hb' := nb hb
  exact lineA_bd (h.mono (by omega)) (by omega) (by omega)
theorem curveQ_bdK {p : QSt} {M K : Nat} {a b c d e f : Int} (h : p.Bd M) (ha : a.natAbs ≤ K) (hb : b.natAbs ≤ K) (hc : c.natAbs ≤ K) (hd : d.natAbs ≤ K) (he : e.natAbs ≤ K) (hf : f.natAbs ≤ K) : (curveQ p a b c d e f).Bd (M + 3 * K) := by
  obtain ⟨x0, x1, x2⟩ := abs4 h.x ha hc he
  obtain ⟨y0, y1, y2⟩ := abs4 h.y hb hd hf
  exact curveA_bd (h.mono (by omega)) (by omega) (by omega) (by omega) (by omega) (by omega) (by omega)
theorem curveQ_bdO {p : QSt} {M : Nat} {a b c d e f : Int} (h : p.Bd M) (ha : Opd a) (hb : Opd b) (hc : Opd c) (hd : Opd d) (he : Opd e) (hf : Opd f) : (curveQ p a b c d e f).Bd (M + 3 * 2147483648) := curveQ_bdK h ha hb hc hd he hf
theorem linesQ_bd : ∀ {l : List Int} {p : QSt} {M : Nat}, p.Bd M → (∀ q ∈ l, Opd q) → (linesQ p l).Bd (M + l.length * 2147483648)
  | [], p, M, h, _ => by simpa [linesQ] using h
  | [_], p, M, h, _ => h.mono (by omega)
  | a :: b :: r, p, M, h, hq => by
    have h1 := linesQ_bd (l := r) (lineQ_bd h (hq a (by simp)) (hq b (by simp))) (fun q hm => hq q (by simp [hm]))
    exact h1.mono (by simp only [List.length_cons]; omega)
theorem curvesQ_bd : ∀ {l : List Int} {p : QSt} {M : Nat}, p.Bd M → (∀ q ∈ l, Opd q) → (curvesQ p l).Bd (M + l.length * 2147483648)
  | a :: b :: c :: d :: e :: f :: r, p, M, h, hq => by
    have h1 := curvesQ_bd (l := r) (curveQ_bdO h (hq a (by simp)) (hq b (by simp)) (hq c (by simp)) (hq d (by simp)) (hq e (by simp)) (hq f (by simp))) (fun q hm => hq q (by simp [hm]))
    exact h1.mono (by simp only [List.length_cons]; omega)
  | [], p, M, h, _ => h.mono (by omega)
  | [_], p, M, h, _ => h.mono (by omega)
  | [_, _], p, M, h, _ => h.mono (by omega)
  | [_, _, _], p, M, h, _ => h.mono (by omega)
  | [_, _, _, _], p, M, h, _ => h.mono (by omega)
  | [_, _, _, _, _], p, M, h, _ => h.mono (by omega)
theorem hvQ_bd : ∀ {l : List Int} {lv : Bool} {p : QSt} {M : Nat}, p.Bd M → (∀ q ∈ l, Opd q) → (hvQ lv p l).Bd (M + l.length * 2147483648)
  | [], lv, p, M, h, _ => h.mono (by omega)
  | a :: r, lv, p, M, h, hq => by
    have h0 : (bif lv then lineQ p a 0 else lineQ p 0 a).Bd (M + 2147483648) := by
      cases lv
      · exact lineQ_bd h Opd_zero (hq a (by simp))
      · exact lineQ_bd h (hq a (by simp)) Opd_zero
    have h1 := hvQ_bd (l := r) (lv := !lv) h0 (fun q hm => hq q (by simp [hm]))
    exact h1.mono (by simp only [List.length_cons]; omega)
theorem straightQ_bd : ∀ {l : List Int} {lv : Bool} {q0 : Int} {p : QSt} {M : Nat}, p.Bd M → Opd q0 → (∀ q ∈ l, Opd q) → (straightQ lv p q0 l).Bd (M + l.length * 2147483648)
  | a :: b :: c :: d :: r, lv, q0, p, M, h, h0, hq => by
    have h1 : (bif lv then curveQ p a q0 b c d 0 else curveQ p q0 a b c 0 d).Bd (M + 3 * 2147483648) := by
      cases lv
      · exact curveQ_bdO h h0 (hq a (by simp)) (hq b (by simp)) (hq c (by simp)) Opd_zero (hq d (by simp))
      · exact curveQ_bdO h (hq a (by simp)) h0 (hq b (by simp)) (hq c (by simp)) (hq d (by simp)) Opd_zero
    have h2 := straightQ_bd (l := r) (lv := lv) h1 Opd_zero (fun q hm => hq q (by simp [hm]))
    exact h2.mono (by simp only [List.length_cons]; omega)
  | [], lv, q0, p, M, h, _, _ => h.mono (by omega)
  | [_], lv, q0, p, M, h, _, _ => h.mono (by omega)
  | [_, _], lv, q0, p, M, h, _, _ => h.mono (by omega)
  | [_, _, _], lv, q0, p, M, h, _, _ => h.mono (by omega)
theorem straightSQ_bd {l : List Int} {lv : Bool} {p : QSt} {M : Nat} (h : p.Bd M) (hq : ∀ q ∈ l, Opd q) : (straightSQ lv p l).Bd (M + l.length * 2147483648) := by
  unfold straightSQ
  cases l with
  | nil => exact h.mono (by omega)
  | cons a r =>
    cases (a :: r).length % 4 == 1
    · exact straightQ_bd h Opd_zero hq
    · exact (straightQ_bd (l := r) h (hq a (by simp)) (fun q hm => hq q (by simp [hm]))).mono (by simp only [List.length_cons]; omega)
theorem turningQ_bd : ∀ (n : Nat) {l : List Int} {lv : Bool} {p : QSt} {M : Nat}, l.length ≤ n → p.Bd M → (∀ q ∈ l, Opd q) → (turningQ lv p l).Bd (M + l.length * 2147483648) := by
  intro n
  induction n with
  | zero => intro l lv p M hl h hq; rw [turningQ_short (by omega)]; exact h.mono (by omega)
  | succ n ih =>
    intro l lv p M hl h hq
    by_cases h4 : l.length < 4
    · rw [turningQ_short h4]; exact h.mono (by omega)
    · obtain ⟨a, b, c, d, r, rfl⟩ := cons4 (l := l) (by omega)
      rw [turningQ_step]
      have ho := lastQ_opd (r := r) (fun q hm => hq q (by simp [hm]))
      have h1 : (bif lv then curveQ p a 0 b c (lastQ r) d else curveQ p 0 a b c d (lastQ r)).Bd (M + 3 * 2147483648) := by
        cases lv
        · exact curveQ_bdO h Opd_zero (hq a (by simp)) (hq b (by simp)) (hq c (by simp)) (hq d (by simp)) ho
        · exact curveQ_bdO h (hq a (by simp)) Opd_zero (hq b (by simp)) (hq c (by simp)) ho (hq d (by simp))
      simp only [List.length_cons] at hl ⊢
      exact (ih (l := r) (lv := !lv) (by omega) h1 (fun q hm => hq q (by simp [hm]))).mono (by omega)
theorem pathQ_bd {v : Nat} {l : List Int} {q : QSt} {M : Nat} (h : q.Bd M) (hq : ∀ x ∈ l, Opd x) : (pathQ v q l).Bd (M + l.length * 2147483648) := by
  unfold pathQ
  split
  · exact linesQ_bd h hq
  split
  · exact hvQ_bd h hq
  split
  · exact curvesQ_bd h hq
  split
  · have h1 := linesQ_bd (curvesQ_bd h (opd_take hq (l.length - 2))) (opd_drop hq (l.length - 2))
    rw [List.length_take, List.length_drop] at h1
    exact h1.mono (by omega)
  split
  · have h1 := curvesQ_bd (linesQ_bd h (opd_take hq (l.length - 6))) (opd_drop hq (l.length - 6))
    rw [List.length_take, List.length_drop] at h1
    exact h1.mono (by omega)
  split
  · exact straightSQ_bd h hq
  · exact turningQ_bd _ (Nat.le_refl _) h hq
theorem moveQ_bd {q : QSt} {M : Nat} {a b : Int} (h : q.Bd M) (ha : Opd a) (hb : Opd b) : (moveQ q a b).Bd (M + 2147483648) := by
  have hx := nb h.x
  have hy := nb h.y
  have ha' := nb ha
  have hb' := nb hb
  exact ⟨show (q.x + a).natAbs ≤ _ by omega, show (q.y + b).natAbs ≤ _ by omega, show (q.x + a).natAbs ≤ _ by omega, show (q.y + b).natAbs ≤ _ by omega, h.bx.mono (Nat.le_add_right _ _)⟩
theorem flexQ_bd {v : Nat} {l : List Int} {q : QSt} {M : Nat} (h : q.Bd M) (hq : ∀ x ∈ l, Opd x) : (flexQ v q l).Bd (M + 60 * 2147483648) := by
  unfold flexQ
  split
  · rename_i a b c d e f g
    have oa := (hq a (by simp)).big; have ob := (hq b (by simp)).big; have oc := (hq c (by simp)).big; have od := (hq d (by simp)).big; have oe := (hq e (by simp)).big; have of_ := (hq f (by simp)).big; have og := (hq g (by simp)).big
    exact (curveQ_bdK (curveQ_bdK h oa big_zero ob oc od big_zero) oe big_zero of_ (neg_le oc) og big_zero).mono (by omega)
  · rename_i a b c d e f g h' i
    have oa := (hq a (by simp)).big; have ob := (hq b (by simp)).big; have oc := (hq c (by simp)).big; have od := (hq d (by simp)).big; have oe := (hq e (by simp)).big; have of_ := (hq f (by simp)).big; have og := (hq g (by simp)).big; have oh := (hq h' (by simp)).big; have oi := (hq i (by simp)).big
    have os : (b + d + h').natAbs ≤ 10737418240 := Nat.le_trans (Opd.add (Opd.add (hq b (by simp)) (hq d (by simp))) (hq h' (by simp))) (by decide)
    exact (curveQ_bdK (curveQ_bdK h oa ob oc od oe big_zero) of_ big_zero og oh oi (neg_le os)).mono (by omega)
  · rename_i a b c d e f g h' i j k
    have oa := (hq a (by simp)).big; have ob := (hq b (by simp)).big; have oc := (hq c (by simp)).big; have od := (hq d (by simp)).big; have oe := (hq e (by simp)).big; have of_ := (hq f (by simp)).big; have og := (hq g (by simp)).big; have oh := (hq h' (by simp)).big; have oi := (hq i (by simp)).big; have oj := (hq j (by simp)).big; have ok := (hq k (by simp)).big
    have ox : (a + c + e + g + i).natAbs ≤ 10737418240 := Nat.le_trans (Opd.add (Opd.add (Opd.add (Opd.add (hq a (by simp)) (hq c (by simp))) (hq e (by simp))) (hq g (by simp))) (hq i (by simp))) (by decide)
    have oy : (b + d + f + h' + j).natAbs ≤ 10737418240 := Nat.le_trans (Opd.add (Opd.add (Opd.add (Opd.add (hq b (by simp)) (hq d (by simp))) (hq f (by simp))) (hq h' (by simp))) (hq j (by simp))) (by decide)
    generalize decide (((b + d + f + h' + j).natAbs : Int) < (a + c + e + g + i).natAbs) = B
    cases B
    · exact (curveQ_bdK (curveQ_bdK h oa ob oc od oe of_) og oh oi oj (neg_le ox) ok).mono (by omega)
    · exact (curveQ_bdK (curveQ_bdK h oa ob oc od oe of_) og oh oi oj ok (neg_le oy)).mono (by omega)
  · rename_i a b c d e f g h' i j k m n
    have oa := (hq a (by simp)).big; have ob := (hq b (by simp)).big; have oc := (hq c (by simp)).big; have od := (hq d (by simp)).big; have oe := (hq e (by simp)).big; have of_ := (hq f (by simp)).big; have og := (hq g (by simp)).big; have oh := (hq h' (by simp)).big; have oi := (hq i (by simp)).big; have oj := (hq j (by simp)).big; have ok := (hq k (by simp)).big; have om := (hq m (by simp)).big
    exact (curveQ_bdK (curveQ_bdK h oa ob oc od oe of_) og oh oi oj ok om).mono (by omega)
  · exact h.mono (by omega)
/-- One operator, from the state that has counted it, the bytes behind it and the frames. -/
inductive St1 (los gls : List (List Nat)) : CSt → Nat → Bool → List Nat → List (List Nat) → CSt → List Nat → List (List Nat) → Prop
  | ret {c r b K} : 0 < c.deep → St1 los gls c 11 false r (b :: K) { c with deep := c.deep - 1 } b K
  | call {c v r K s k sub} : v = 10 ∨ v = 29 → c.st = s ++ [k * 65536] → 0 ≤ k + 107 → (bif v == 10 then los else gls)[(k + 107).toNat]? = some sub → c.deep + 1 < 9 → St1 los gls c v false r K { c with st := s, deep := c.deep + 1 } sub (r :: K)
  | flex {c w r K p'} : c.p.o = true → flexP w c.p c.st = some p' → St1 los gls c w true r K { c with p := p', st := [] } r K
  | mask {c v r K} : v = 19 ∨ v = 20 → (c.masked = false ∨ c.st = []) → (bareL (-1) c.begun c.st).length % 2 = 0 → ((stemC c).stems + 7) / 8 < r.length → St1 los gls c v false r K { stemC c with masked := true } (r.drop (((stemC c).stems + 7) / 8)) K
  | op {c v r K c1} : v ≠ 14 → v ≠ 10 → v ≠ 29 → v ≠ 11 → v ≠ 12 → v ≠ 19 → v ≠ 20 → OpR v c c1 → St1 los gls c v false r K c1 r K
/-- So many steps to the end, and the pen that is left. -/
inductive Fl (los gls : List (List Nat)) : Nat → CSt → List Nat → List (List Nat) → PSt → Prop
  | fin {c r K c1} : c.ops + 1 < 2000 → OpR 14 c.tick c1 → Fl los gls 0 c (14 :: r) K c1.p
  | num {n c v r K z pf} : c.ops + 1 < 2000 → isNum v = true → numB (v :: r) = some z → c.st.length + 1 ≤ 48 → Fl los gls n { c.tick with st := c.st ++ [z.1] } ((v :: r).drop z.2) K pf → Fl los gls (n + 1) c (v :: r) K pf
  | step {n c v r K c1 r1 K1 pf} : c.ops + 1 < 2000 → isNum v = false → v ≠ 12 → v ≠ 14 → St1 los gls c.tick v false r K c1 r1 K1 → Fl los gls n c1 r1 K1 pf → Fl los gls (n + 1) c (v :: r) K pf
  | esc {n c w r K c1 r1 K1 pf} : c.ops + 1 < 2000 → St1 los gls c.tick w true r K c1 r1 K1 → Fl los gls n c1 r1 K1 pf → Fl los gls (n + 1) c (12 :: w :: r) K pf
theorem OpR.ends {v : Nat} {c c1 : CSt} (h : OpR v c c1) (hc : c.ended = false) : (v = 14 ∧ c1.ended = true) ∨ (v ≠ 14 ∧ c1.ended = false) := by
  cases h with
  | stem hv _ _ _ => exact .inr ⟨by omega, hc⟩
  | rmove _ => exact .inr ⟨by decide, hc⟩
  | hmove _ => exact .inr ⟨by decide, hc⟩
  | vmove _ => exact .inr ⟨by decide, hc⟩
  | fin _ => exact .inl ⟨rfl, rfl⟩
  | path _ hp => exact .inr ⟨fun he => by subst he; simp [pathP] at hp, hc⟩
theorem RunR.deep {los gls : List (List Nat)} {c c2 : CSt} {b : List Nat} (h : RunR los gls c b c2) : c2.deep = c.deep := by
  induction h with
  | ended _ => rfl
  | num _ _ _ _ _ _ ih => exact ih
  | ret _ _ _ => rfl
  | call _ _ _ _ _ _ _ _ _ _ ih2 => exact ih2
  | flex _ _ _ _ _ ih => exact ih
  | mask _ _ _ _ _ _ _ ih => exact ih
  | op _ _ _ _ _ _ _ _ _ ho _ ih =>
    rw [ih]
    cases ho <;> rfl
theorem RunR.stop {los gls : List (List Nat)} {c c2 : CSt} {b : List Nat} (h : RunR los gls c b c2) (he : c.ended = true) : c2 = c := by
  cases h with
  | ended _ => rfl
  | num h1 _ _ _ _ _ => rw [he] at h1; cases h1
  | ret h1 _ _ => rw [he] at h1; cases h1
  | call h1 _ _ _ _ _ _ _ _ => rw [he] at h1; cases h1
  | flex h1 _ _ _ _ => rw [he] at h1; cases h1
  | mask h1 _ _ _ _ _ _ => rw [he] at h1; cases h1
  | op h1 _ _ _ _ _ _ _ _ _ _ => rw [he] at h1; cases h1
theorem RunR.flat {los gls : List (List Nat)} {c c2 : CSt} {b : List Nat} (h : RunR los gls c b c2) : c.ended = false → ∀ K pf, (c2.ended = true → pf = c2.p) → (c2.ended = false → ∃ n b' K', K = b' :: K' ∧ Fl los gls n { c2 with deep := c.deep - 1 } b' K' pf) → ∃ n, Fl los gls n c b K pf := by
  induction h with
  | ended he => intro h0; rw [he] at h0; cases h0
  | num h1 h2 h3 h4 h5 h6 ih =>
    intro h0 K pf k1 k2
    obtain ⟨n, hn⟩ := ih h1 K pf k1 k2
    exact ⟨n + 1, .num h2 h3 h4 h5 hn⟩
  | ret h1 h2 h3 =>
    intro h0 K pf k1 k2
    obtain ⟨n, b', K', rfl, hn⟩ := k2 h1
    exact ⟨n + 1, .step h2 rfl (by decide) (by decide) (.ret h3) hn⟩
  | @call c v r s k sub c1 c' h1 h2 hv hs hk hsub hd hr1 hr2 ih1 ih2 =>
    intro h0 K pf k1 k2
    have hnum : isNum v = false := by rcases hv with rfl | rfl <;> rfl
    cases he : c1.ended with
    | true =>
      have e2 := hr2.stop he
      obtain ⟨n, hn⟩ := ih1 h1 (r :: K) pf (fun _ => by have := k1 (by rw [e2]; exact he); rw [this, e2]) (fun hc => by rw [he] at hc; cases hc)
      exact ⟨n + 1, .step h2 hnum (by omega) (by omega) (.call hv hs hk hsub hd) hn⟩
    | false =>
      obtain ⟨n2, hn2⟩ := ih2 he K pf k1 k2
      obtain ⟨n, hn⟩ := ih1 h1 (r :: K) pf (fun hc => by rw [he] at hc; cases hc) (fun _ => ⟨n2, r, K, rfl, hn2⟩)
      exact ⟨n + 1, .step h2 hnum (by omega) (by omega) (.call hv hs hk hsub hd) hn⟩
  | flex h1 h2 h3 h4 h5 ih =>
    intro h0 K pf k1 k2
    obtain ⟨n, hn⟩ := ih h1 K pf k1 k2
    exact ⟨n + 1, .esc h2 (.flex h3 h4) hn⟩
  | @mask c v r c' h1 h2 hv h4 h5 h6 h7 ih =>
    intro h0 K pf k1 k2
    obtain ⟨n, hn⟩ := ih h1 K pf k1 k2
    exact ⟨n + 1, .step h2 (by rcases hv with rfl | rfl <;> rfl) (by omega) (by omega) (.mask hv h4 h5 h6) hn⟩
  | @op c v r c1 c' h1 h2 h3 n1 n2 n3 n4 n5 n6 ho hr ih =>
    intro h0 K pf k1 k2
    rcases ho.ends h1 with ⟨rfl, he⟩ | ⟨hv, he⟩
    · have e2 := hr.stop he
      have e3 := k1 (by rw [e2]; exact he)
      rw [e3, e2]
      exact ⟨0, .fin h2 ho⟩
    · have hdp : c1.deep = c.deep := by cases ho <;> rfl
      obtain ⟨n, hn⟩ := ih he K pf k1 (by rw [hdp]; exact k2)
      exact ⟨n + 1, .step h2 h3 n4 hv (.op hv n1 n2 n3 n4 n5 n6 ho) hn⟩
structure RS where
  c : CSt
  A : Option Addr
  cl : Nat
  b : List Nat
  K : List (Option Addr × Nat × List Nat)
  Mc : List Value
  q : QSt
  so : Sv
  vn : Nat
  hn : Nat
  v7 : Value
  wq : Int
def frv (K : List (Option Addr × Nat × List Nat)) : List Value := K.reverse.map fun k => .slice k.1 k.2.2.length k.2.1
theorem frv_cons (k : Option Addr × Nat × List Nat) (K : List (Option Addr × Nat × List Nat)) : frv (k :: K) = frv K ++ [.slice k.1 k.2.2.length k.2.1] := by simp [frv]
theorem frv_len (K : List (Option Addr × Nat × List Nat)) : (frv K).length = K.length := by simp [frv]
structure ROk (w : World) (S : List Nat) (lo gl : Value) (z : RS) : Prop where
  inv : Inv z.c
  rel : RelP z.c.p z.q
  bd : z.q.Bd (z.c.ops * 128849018880)
  m : MOk z.Mc lo gl (.slice z.A z.b.length z.cl) (frv z.K) z.c.st
  by_ : RdB w S z.A z.b ∧ z.b.length ≤ z.cl ∧ ∀ u ∈ z.b, u < 256
  fr : ∀ k ∈ z.K, RdB w S k.1 k.2.2 ∧ k.2.2.length ≤ k.2.1 ∧ ∀ u ∈ k.2.2, u < 256
  kd : z.K.length = z.c.deep
  st : z.vn + z.hn = z.c.stems
  hm : z.c.masked = true → z.v7 = .int .i32 (((z.c.stems + 7) / 8 : Nat) : Int)
  so : slOk z.so z.q.out.length 7 (encG z.q.out)
def RH (bM bH : Nat) (z : RS) : Heap :=
  (bM, z.Mc, 95) :: (HB bH z.so z.q.out.length z.q.bx (.int .i32 (z.vn : Nat)) (.int .i32 (z.hn : Nat)) z.v7 z.q.x z.q.y z.q.fx z.q.fy z.q.io (.bool z.c.masked) ((z.q.bx).isSome) ([.float .f64 (F 0), .float .f64 (F z.wq)])) :: slH z.so (encG z.q.out) 77
theorem outMap {ι κ : Type} {w : World} {S : List Nat} {φ : ι → Prop} {v : ι → Value} {H : ι → Heap} {φ' : κ → Prop} {v' : κ → Value} {H' : κ → Heap} {e : Ending} {w' : World} (h : Out w S φ v H e w') (f : ι → κ) (hf : ∀ x, φ x → φ' (f x)) (hv : ∀ x, v x = v' (f x)) (hH : ∀ x, H' (f x) = H x) : Out w S φ' v' H' e w' := by
  obtain ⟨x, hx, he, hw⟩ := h
  exact ⟨f x, hf x hx, by rw [he, hv], by rw [hH]; exact hw⟩
theorem bare_half {b : Bool} {st : List Int} (h : (bareL (-1) b st).length % 2 = 0) : (bareL (-1) b st).length / 2 = st.length / 2 := by
  unfold bareL at h ⊢
  cases b
  · simp only [cond_false] at h ⊢
    split at h
    · rename_i hc
      rw [if_pos hc]
      rw [List.length_tail] at h ⊢
      rcases hc with hc | hc <;> omega
    · rename_i hc
      rw [if_neg hc]
  · rfl
theorem bare_suffix {n : Int} {b : Bool} {st l : List Int} (h : bareL n b st = l) : ∃ s, st = s ++ l := by
  unfold bareL at h
  cases b
  · simp only [cond_false] at h
    split at h
    · cases st with
      | nil => exact ⟨[], by simpa using h⟩
      | cons a r => exact ⟨[a], by simpa using h⟩
    · exact ⟨[], h⟩
  · exact ⟨[], h⟩
theorem RelP.same {p : PSt} {q : QSt} (h : RelP p q) : q.out = p.out := by obtain ⟨l, h, _⟩ := h; exact h.out
theorem opd_nb {q : Int} (h : Opd q) : -2147483648 ≤ q ∧ q ≤ 2147483648 := nb h
section
variable {w0 : World} {S : List Nat} {lo gl : Value}
/-- What an operator that draws leaves. -/
theorem ROk.draw {c1 : CSt} {z : RS} (hz : ROk w0 S lo gl z) {Mc : List Value} {q : QSt} {so : Sv} {wq : Int} {vn hn : Nat} {v7 : Value} (hi : Inv c1) (hrel : RelP c1.p q) (hbd : q.Bd (c1.ops * 128849018880)) (hm : MOk Mc lo gl (.slice z.A z.b.length z.cl) (frv z.K) c1.st) (hd : c1.deep = z.c.deep) (hst : vn + hn = c1.stems) (hmm : c1.masked = true → v7 = .int .i32 (((c1.stems + 7) / 8 : Nat) : Int)) (hso : slOk so q.out.length 7 (encG q.out)) :
    ROk w0 S lo gl { z with c := c1, Mc := Mc, q := q, so := so, wq := wq, vn := vn, hn := hn, v7 := v7 } :=
  ⟨hi, hrel, hbd, hm, hz.by_, hz.fr, by show z.K.length = c1.deep; rw [hd, hz.kd], hst, hmm, hso⟩
theorem ROk.lens {z : RS} (hz : ROk w0 S lo gl z) : z.vn ≤ 1000000 ∧ z.hn ≤ 1000000 ∧ z.c.ops * 128849018880 + 120 * 2147483648 < 2 ^ 53 ∧ z.q.out.length ≤ 70000 := by
  have h1 := hz.inv.ops
  have h2 := hz.inv.stems
  have h3 := hz.st
  have h4 := hz.inv.out
  have h5 := hz.rel.same
  refine ⟨by omega, by omega, by omega, by rw [h5]; omega⟩
end
section
variable {w0 w : World} {S : List Nat} {lo gl : Value} {bM bH : Nat} {z : RS}
/-- A state that an operator leaves. -/
def Aft (w0 : World) (S : List Nat) (lo gl : Value) (z : RS) (c1 : CSt) (b : List Nat) (K : List (Option Addr × Nat × List Nat)) (z' : RS) : Prop := ROk w0 S lo gl z' ∧ z'.c = c1 ∧ z'.b = b ∧ z'.K = K
theorem apply_path {v : Nat} {p' : PSt} (hz : ROk w0 S lo gl z) (ho : z.c.ops + 1 < 2000) (hop : z.c.p.o = true) (hp : pathP v z.c.p z.c.st = some p') (hw : Hp w ((RH bM bH z).map (·.1)) (RH bM bH z) w) :
    Calls Tryz.prog 116 [.pointer (some ⟨bH, 0, none⟩), .pointer (some ⟨bM, 0, none⟩), .agg #[.int .u8 (v : Nat), .bool false]].toArray w (Out w ((RH bM bH z).map (·.1)) (Aft w0 S lo gl z { z.c.tick with p := p', st := [] } z.b z.K) (fun _ => .nilIface) (RH bM bH)) := by
  obtain ⟨l1, l2, l3, l4⟩ := hz.lens
  obtain ⟨hi, _⟩ := hz.inv.op ho (.path (c := z.c.tick) hop hp)
  obtain ⟨hrel, _⟩ := hz.rel.path hop hp
  have hbd := pathQ_bd (v := v) hz.bd hz.inv.opd
  have hl48 := hz.inv.len
  have hbd2 : (pathQ v z.q z.c.st).Bd ((z.c.ops + 1) * 128849018880) := hbd.mono (by omega)
  have fin : ∀ (Mc : List Value) (wq : Int) (so : Sv), MOk Mc lo gl (.slice z.A z.b.length z.cl) (frv z.K) [] → slOk so (pathQ v z.q z.c.st).out.length 7 (encG (pathQ v z.q z.c.st).out) → Aft w0 S lo gl z { z.c.tick with p := p', st := [] } z.b z.K { z with c := { z.c.tick with p := p', st := [] }, Mc := Mc, q := pathQ v z.q z.c.st, so := so, wq := wq } :=
    fun Mc wq so hm hso => ⟨hz.draw (c1 := { z.c.tick with p := p', st := [] }) (vn := z.vn) (hn := z.hn) (v7 := z.v7) hi hrel hbd2 hm rfl hz.st hz.hm hso, rfl, rfl, rfl⟩
  have hp0 := hp
  unfold pathP at hp
  split at hp
  · rename_i hv
    subst hv
    split at hp
    · rename_i hc
      exact (ap_5 w bM bH _ z.Mc lo gl _ (frv z.K) z.vn z.hn z.v7 z.c.masked z.c.st hc.2 l1 l2 z.wq z.q z.so hl48 hz.inv.opd hz.m l3 hz.bd hz.so l4 hw).mono fun e w' h => outMap h (fun x => { z with c := { z.c.tick with p := p', st := [] }, Mc := x.1, q := linesQ z.q z.c.st, so := x.2.2, wq := x.2.1 }) (fun x hx => fin x.1 x.2.1 x.2.2 hx.1 hx.2) (fun _ => rfl) (fun _ => rfl)
    · cases hp
  split at hp
  · rename_i hv
    split at hp
    · rename_i hc
      rcases hv with rfl | rfl
      · exact (ap_6 w bM bH _ z.Mc lo gl _ (frv z.K) z.vn z.hn z.v7 z.c.masked z.c.st  l1 l2 z.wq z.q z.so hl48 hz.inv.opd hz.m l3 hz.bd hz.so l4 hw).mono fun e w' h => outMap h (fun x => { z with c := { z.c.tick with p := p', st := [] }, Mc := x.1, q := hvQ true z.q z.c.st, so := x.2.2, wq := x.2.1 }) (fun x hx => fin x.1 x.2.1 x.2.2 hx.1 hx.2) (fun _ => rfl) (fun _ => rfl)
      · exact (ap_7 w bM bH _ z.Mc lo gl _ (frv z.K) z.vn z.hn z.v7 z.c.masked z.c.st  l1 l2 z.wq z.q z.so hl48 hz.inv.opd hz.m l3 hz.bd hz.so l4 hw).mono fun e w' h => outMap h (fun x => { z with c := { z.c.tick with p := p', st := [] }, Mc := x.1, q := hvQ false z.q z.c.st, so := x.2.2, wq := x.2.1 }) (fun x hx => fin x.1 x.2.1 x.2.2 hx.1 hx.2) (fun _ => rfl) (fun _ => rfl)
    · cases hp
  split at hp
  · rename_i hv
    subst hv
    split at hp
    · rename_i hc
      exact (ap_8 w bM bH _ z.Mc lo gl _ (frv z.K) z.vn z.hn z.v7 z.c.masked z.c.st hc.2 l1 l2 z.wq z.q z.so hl48 hz.inv.opd hz.m l3 hz.bd hz.so l4 hw).mono fun e w' h => outMap h (fun x => { z with c := { z.c.tick with p := p', st := [] }, Mc := x.1, q := curvesQ z.q z.c.st, so := x.2.2, wq := x.2.1 }) (fun x hx => fin x.1 x.2.1 x.2.2 hx.1 hx.2) (fun _ => rfl) (fun _ => rfl)
    · cases hp
  split at hp
  · rename_i hv
    subst hv
    split at hp
    · rename_i hc
      exact (ap_24 w bM bH _ z.Mc lo gl _ (frv z.K) z.vn z.hn z.v7 z.c.masked z.c.st hc.1 hc.2 l1 l2 z.wq z.q z.so hl48 hz.inv.opd hz.m l3 hz.bd hz.so l4 hw).mono fun e w' h => outMap h (fun x => { z with c := { z.c.tick with p := p', st := [] }, Mc := x.1, q := linesQ (curvesQ z.q (z.c.st.take (z.c.st.length - 2))) (z.c.st.drop (z.c.st.length - 2)), so := x.2.2, wq := x.2.1 }) (fun x hx => fin x.1 x.2.1 x.2.2 hx.1 hx.2) (fun _ => rfl) (fun _ => rfl)
    · cases hp
  split at hp
  · rename_i hv
    subst hv
    split at hp
    · rename_i hc
      exact (ap_25 w bM bH _ z.Mc lo gl _ (frv z.K) z.vn z.hn z.v7 z.c.masked z.c.st hc.1 hc.2 l1 l2 z.wq z.q z.so hl48 hz.inv.opd hz.m l3 hz.bd hz.so l4 hw).mono fun e w' h => outMap h (fun x => { z with c := { z.c.tick with p := p', st := [] }, Mc := x.1, q := curvesQ (linesQ z.q (z.c.st.take (z.c.st.length - 6))) (z.c.st.drop (z.c.st.length - 6)), so := x.2.2, wq := x.2.1 }) (fun x hx => fin x.1 x.2.1 x.2.2 hx.1 hx.2) (fun _ => rfl) (fun _ => rfl)
    · cases hp
  split at hp
  · rename_i hv
    split at hp
    · rename_i hc
      rcases hv with rfl | rfl
      · exact (ap_26 w bM bH _ z.Mc lo gl _ (frv z.K) z.vn z.hn z.v7 z.c.masked z.c.st hc.1 hc.2 l1 l2 z.wq z.q z.so hl48 hz.inv.opd hz.m l3 hz.bd hz.so l4 hw).mono fun e w' h => outMap h (fun x => { z with c := { z.c.tick with p := p', st := [] }, Mc := x.1, q := straightSQ false z.q z.c.st, so := x.2.2, wq := x.2.1 }) (fun x hx => fin x.1 x.2.1 x.2.2 hx.1 hx.2) (fun _ => rfl) (fun _ => rfl)
      · exact (ap_27 w bM bH _ z.Mc lo gl _ (frv z.K) z.vn z.hn z.v7 z.c.masked z.c.st hc.1 hc.2 l1 l2 z.wq z.q z.so hl48 hz.inv.opd hz.m l3 hz.bd hz.so l4 hw).mono fun e w' h => outMap h (fun x => { z with c := { z.c.tick with p := p', st := [] }, Mc := x.1, q := straightSQ true z.q z.c.st, so := x.2.2, wq := x.2.1 }) (fun x hx => fin x.1 x.2.1 x.2.2 hx.1 hx.2) (fun _ => rfl) (fun _ => rfl)
    · cases hp
  split at hp
  · rename_i hv
    split at hp
    · rename_i hc
      rcases hv with rfl | rfl
      · exact (ap_30 w bM bH _ z.Mc lo gl _ (frv z.K) z.vn z.hn z.v7 z.c.masked z.c.st hc.1 hc.2 l1 l2 z.wq z.q z.so hl48 hz.inv.opd hz.m l3 hz.bd hz.so l4 hw).mono fun e w' h => outMap h (fun x => { z with c := { z.c.tick with p := p', st := [] }, Mc := x.1, q := turningQ false z.q z.c.st, so := x.2.2, wq := x.2.1 }) (fun x hx => fin x.1 x.2.1 x.2.2 hx.1 hx.2) (fun _ => rfl) (fun _ => rfl)
      · exact (ap_31 w bM bH _ z.Mc lo gl _ (frv z.K) z.vn z.hn z.v7 z.c.masked z.c.st hc.1 hc.2 l1 l2 z.wq z.q z.so hl48 hz.inv.opd hz.m l3 hz.bd hz.so l4 hw).mono fun e w' h => outMap h (fun x => { z with c := { z.c.tick with p := p', st := [] }, Mc := x.1, q := turningQ true z.q z.c.st, so := x.2.2, wq := x.2.1 }) (fun x hx => fin x.1 x.2.1 x.2.2 hx.1 hx.2) (fun _ => rfl) (fun _ => rfl)
    · cases hp
  · cases hp
theorem apply_flex {v : Nat} {p' : PSt} (hz : ROk w0 S lo gl z) (ho : z.c.ops + 1 < 2000) (hop : z.c.p.o = true) (hp : flexP v z.c.p z.c.st = some p') (hw : Hp w ((RH bM bH z).map (·.1)) (RH bM bH z) w) :
    Calls Tryz.prog 116 [.pointer (some ⟨bH, 0, none⟩), .pointer (some ⟨bM, 0, none⟩), .agg #[.int .u8 (v : Nat), .bool true]].toArray w (Out w ((RH bM bH z).map (·.1)) (Aft w0 S lo gl z { z.c.tick with p := p', st := [] } z.b z.K) (fun _ => .nilIface) (RH bM bH)) := by
  obtain ⟨l1, l2, l3, l4⟩ := hz.lens
  have hi := hz.inv.flex ho hp
  obtain ⟨hrel, _⟩ := hz.rel.flex hop hp
  have hbd := flexQ_bd (v := v) hz.bd hz.inv.opd
  have hl48 := hz.inv.len
  have hopd := hz.inv.opd
  have hmz := hz.m
  have hbd2 : (flexQ v z.q z.c.st).Bd ((z.c.ops + 1) * 128849018880) := hbd.mono (by omega)
  have fin : ∀ (Mc : List Value) (wq : Int) (so : Sv), MOk Mc lo gl (.slice z.A z.b.length z.cl) (frv z.K) [] → slOk so (flexQ v z.q z.c.st).out.length 7 (encG (flexQ v z.q z.c.st).out) → Aft w0 S lo gl z { z.c.tick with p := p', st := [] } z.b z.K { z with c := { z.c.tick with p := p', st := [] }, Mc := Mc, q := flexQ v z.q z.c.st, so := so, wq := wq } :=
    fun Mc wq so hm hso => ⟨hz.draw (c1 := { z.c.tick with p := p', st := [] }) (vn := z.vn) (hn := z.hn) (v7 := z.v7) hi hrel hbd2 hm rfl hz.st hz.hm hso, rfl, rfl, rfl⟩
  unfold flexP at hp
  split at hp
  · rename_i x0 x1 x2 x3 x4 x5 x6 hst
    split at hp
    · rename_i hv
      subst hv
      rw [hst] at hl48 hopd hmz fin
      exact (ap_e34 w bM bH _ z.Mc lo gl _ (frv z.K) z.vn z.hn z.v7 z.c.masked x0 x1 x2 x3 x4 x5 x6 l1 l2 z.wq z.q z.so hl48 hopd hmz l3 hz.bd hz.so l4 hw).mono fun e w' h => outMap h (fun x => { z with c := { z.c.tick with p := p', st := [] }, Mc := x.1, q := flexQ 34 z.q [x0, x1, x2, x3, x4, x5, x6], so := x.2.2, wq := x.2.1 }) (fun x hx => fin x.1 x.2.1 x.2.2 hx.1 hx.2) (fun _ => rfl) (fun _ => rfl)
    · cases hp
  · rename_i x0 x1 x2 x3 x4 x5 x6 x7 x8 hst
    split at hp
    · rename_i hv
      subst hv
      rw [hst] at hl48 hopd hmz fin
      exact (ap_e36 w bM bH _ z.Mc lo gl _ (frv z.K) z.vn z.hn z.v7 z.c.masked x0 x1 x2 x3 x4 x5 x6 x7 x8 l1 l2 z.wq z.q z.so hl48 hopd hmz l3 hz.bd hz.so l4 hw).mono fun e w' h => outMap h (fun x => { z with c := { z.c.tick with p := p', st := [] }, Mc := x.1, q := flexQ 36 z.q [x0, x1, x2, x3, x4, x5, x6, x7, x8], so := x.2.2, wq := x.2.1 }) (fun x hx => fin x.1 x.2.1 x.2.2 hx.1 hx.2) (fun _ => rfl) (fun _ => rfl)
    · cases hp
  · rename_i x0 x1 x2 x3 x4 x5 x6 x7 x8 x9 x10 hst
    split at hp
    · rename_i hv
      subst hv
      rw [hst] at hl48 hopd hmz fin
      exact (ap_e37 w bM bH _ z.Mc lo gl _ (frv z.K) z.vn z.hn z.v7 z.c.masked x0 x1 x2 x3 x4 x5 x6 x7 x8 x9 x10 l1 l2 z.wq z.q z.so hl48 hopd hmz l3 hz.bd hz.so l4 hw).mono fun e w' h => outMap h (fun x => { z with c := { z.c.tick with p := p', st := [] }, Mc := x.1, q := flexQ 37 z.q [x0, x1, x2, x3, x4, x5, x6, x7, x8, x9, x10], so := x.2.2, wq := x.2.1 }) (fun x hx => fin x.1 x.2.1 x.2.2 hx.1 hx.2) (fun _ => rfl) (fun _ => rfl)
    · cases hp
  · rename_i x0 x1 x2 x3 x4 x5 x6 x7 x8 x9 x10 x11 x12 hst
    split at hp
    · rename_i hv
      subst hv
      rw [hst] at hl48 hopd hmz fin
      exact (ap_e35 w bM bH _ z.Mc lo gl _ (frv z.K) z.vn z.hn z.v7 z.c.masked x0 x1 x2 x3 x4 x5 x6 x7 x8 x9 x10 x11 x12 l1 l2 z.wq z.q z.so hl48 hopd hmz l3 hz.bd hz.so l4 hw).mono fun e w' h => outMap h (fun x => { z with c := { z.c.tick with p := p', st := [] }, Mc := x.1, q := flexQ 35 z.q [x0, x1, x2, x3, x4, x5, x6, x7, x8, x9, x10, x11, x12], so := x.2.2, wq := x.2.1 }) (fun x hx => fin x.1 x.2.1 x.2.2 hx.1 hx.2) (fun _ => rfl) (fun _ => rfl)
    · cases hp
  · cases hp
end
section
variable {w0 w : World} {S : List Nat} {lo gl : Value} {bM bH : Nat} {z : RS}
theorem ROk.keep {c1 : CSt} (hz : ROk w0 S lo gl z) (hi : Inv c1) (hops : c1.ops = z.c.ops + 1) : z.q.Bd (c1.ops * 128849018880) := hz.bd.mono (by rw [hops]; omega)
theorem apply_stem {v : Nat} (hz : ROk w0 S lo gl z) (ho : z.c.ops + 1 < 2000) (hv : v = 1 ∨ v = 3 ∨ v = 18 ∨ v = 23) (h2 : 2 ≤ z.c.st.length) (hm0 : z.c.masked = false) (hb : (bareL (-1) z.c.begun z.c.st).length % 2 = 0) (hw : Hp w ((RH bM bH z).map (·.1)) (RH bM bH z) w) :
    Calls Tryz.prog 116 [.pointer (some ⟨bH, 0, none⟩), .pointer (some ⟨bM, 0, none⟩), .agg #[.int .u8 (v : Nat), .bool false]].toArray w (Out w ((RH bM bH z).map (·.1)) (Aft w0 S lo gl z (stemC z.c.tick) z.b z.K) (fun _ => .nilIface) (RH bM bH)) := by
  obtain ⟨l1, l2, l3, l4⟩ := hz.lens
  obtain ⟨hi, _⟩ := hz.inv.op ho (.stem (c := z.c.tick) hv h2 hm0 hb)
  have hl48 := hz.inv.len
  have hh := bare_half hb
  have hst := hz.st
  have fin : ∀ (Mc : List Value) (wq : Int) (so : Sv) (vn hn : Nat), vn + hn = z.c.stems + z.c.st.length / 2 → MOk Mc lo gl (.slice z.A z.b.length z.cl) (frv z.K) [] → slOk so z.q.out.length 7 (encG z.q.out) → Aft w0 S lo gl z (stemC z.c.tick) z.b z.K { z with c := stemC z.c.tick, Mc := Mc, so := so, wq := wq, vn := vn, hn := hn } :=
    fun Mc wq so vn hn hs hm hso => ⟨hz.draw (c1 := stemC z.c.tick) (vn := vn) (hn := hn) (v7 := z.v7) hi hz.rel (hz.keep hi rfl) hm rfl (by show vn + hn = z.c.stems + (bareL (-1) z.c.begun z.c.st).length / 2; rw [hh]; exact hs) (fun hc => by rw [show (stemC z.c.tick).masked = z.c.masked from rfl, hm0] at hc; cases hc) hso, rfl, rfl, rfl⟩
  rcases hv with rfl | rfl | rfl | rfl
  · exact (ap_1 w bM bH _ z.Mc lo gl _ (frv z.K) z.vn z.hn z.v7 z.c.masked z.c.st l1 l2 z.wq z.q z.so hl48 hz.inv.opd hz.m l3 hz.bd hz.so l4 hw).mono fun e w' h => outMap h (fun x => { z with c := stemC z.c.tick, Mc := x.1, so := x.2.2, wq := x.2.1, vn := z.vn, hn := z.hn + z.c.st.length / 2 }) (fun x hx => fin x.1 x.2.1 x.2.2 _ _ (by omega) hx.1 hx.2) (fun _ => rfl) (fun _ => rfl)
  · exact (ap_3 w bM bH _ z.Mc lo gl _ (frv z.K) z.vn z.hn z.v7 z.c.masked z.c.st l1 l2 z.wq z.q z.so hl48 hz.inv.opd hz.m l3 hz.bd hz.so l4 hw).mono fun e w' h => outMap h (fun x => { z with c := stemC z.c.tick, Mc := x.1, so := x.2.2, wq := x.2.1, vn := z.vn + z.c.st.length / 2, hn := z.hn }) (fun x hx => fin x.1 x.2.1 x.2.2 _ _ (by omega) hx.1 hx.2) (fun _ => rfl) (fun _ => rfl)
  · exact (ap_18 w bM bH _ z.Mc lo gl _ (frv z.K) z.vn z.hn z.v7 z.c.masked z.c.st l1 l2 z.wq z.q z.so hl48 hz.inv.opd hz.m l3 hz.bd hz.so l4 hw).mono fun e w' h => outMap h (fun x => { z with c := stemC z.c.tick, Mc := x.1, so := x.2.2, wq := x.2.1, vn := z.vn, hn := z.hn + z.c.st.length / 2 }) (fun x hx => fin x.1 x.2.1 x.2.2 _ _ (by omega) hx.1 hx.2) (fun _ => rfl) (fun _ => rfl)
  · exact (ap_23 w bM bH _ z.Mc lo gl _ (frv z.K) z.vn z.hn z.v7 z.c.masked z.c.st l1 l2 z.wq z.q z.so hl48 hz.inv.opd hz.m l3 hz.bd hz.so l4 hw).mono fun e w' h => outMap h (fun x => { z with c := stemC z.c.tick, Mc := x.1, so := x.2.2, wq := x.2.1, vn := z.vn + z.c.st.length / 2, hn := z.hn }) (fun x hx => fin x.1 x.2.1 x.2.2 _ _ (by omega) hx.1 hx.2) (fun _ => rfl) (fun _ => rfl)
theorem apply_mv {v : Nat} {a b : Int} {l : List Int} (hz : ROk w0 S lo gl z) (ho : z.c.ops + 1 < 2000) (hv : (v = 21 ∧ l = [a, b] ∧ bareL 2 z.c.begun z.c.st = l) ∨ (v = 22 ∧ b = 0 ∧ l = [a] ∧ bareL 1 z.c.begun z.c.st = l) ∨ (v = 4 ∧ a = 0 ∧ l = [b] ∧ bareL 1 z.c.begun z.c.st = l)) (hi : Inv { z.c.tick with begun := true, p := moveP z.c.p a b, st := [] }) (hw : Hp w ((RH bM bH z).map (·.1)) (RH bM bH z) w) :
    Calls Tryz.prog 116 [.pointer (some ⟨bH, 0, none⟩), .pointer (some ⟨bM, 0, none⟩), .agg #[.int .u8 (v : Nat), .bool false]].toArray w (Out w ((RH bM bH z).map (·.1)) (Aft w0 S lo gl z { z.c.tick with begun := true, p := moveP z.c.p a b, st := [] } z.b z.K) (fun _ => .nilIface) (RH bM bH)) := by
  obtain ⟨l1, l2, l3, l4⟩ := hz.lens
  have hl48 := hz.inv.len
  have hopd := hz.inv.opd
  have hmz := hz.m
  have oa : Opd a ∧ Opd b := by
    rcases hv with ⟨_, rfl, h⟩ | ⟨_, rfl, rfl, h⟩ | ⟨_, rfl, rfl, h⟩
    · exact ⟨hopd _ (bareL_mem (by rw [h]; simp)), hopd _ (bareL_mem (by rw [h]; simp))⟩
    · exact ⟨hopd _ (bareL_mem (by rw [h]; simp)), Opd_zero⟩
    · exact ⟨Opd_zero, hopd _ (bareL_mem (by rw [h]; simp))⟩
  have hbd : (moveQ z.q a b).Bd ((z.c.ops + 1) * 128849018880) := (moveQ_bd hz.bd oa.1 oa.2).mono (by omega)
  have hrel := hz.rel.move a b (Nat.le_trans hbd.x (by omega)) (Nat.le_trans hbd.y (by omega))
  have fin : ∀ (Mc : List Value) (wq : Int) (so : Sv), MOk Mc lo gl (.slice z.A z.b.length z.cl) (frv z.K) [] → slOk so (moveQ z.q a b).out.length 7 (encG (moveQ z.q a b).out) → Aft w0 S lo gl z { z.c.tick with begun := true, p := moveP z.c.p a b, st := [] } z.b z.K { z with c := { z.c.tick with begun := true, p := moveP z.c.p a b, st := [] }, Mc := Mc, q := moveQ z.q a b, so := so, wq := wq } :=
    fun Mc wq so hm hso => ⟨hz.draw (c1 := { z.c.tick with begun := true, p := moveP z.c.p a b, st := [] }) (vn := z.vn) (hn := z.hn) (v7 := z.v7) hi hrel hbd hm rfl hz.st hz.hm hso, rfl, rfl, rfl⟩
  rcases hv with ⟨rfl, rfl, h⟩ | ⟨rfl, rfl, rfl, h⟩ | ⟨rfl, rfl, rfl, h⟩
  · obtain ⟨s, hs⟩ := bare_suffix h
    have hs2 : z.c.st = (s ++ [a]) ++ [b] := by rw [hs]; simp
    rw [hs2] at hl48 hopd hmz
    exact (ap_21 w bM bH _ z.Mc lo gl _ (frv z.K) z.vn z.hn z.v7 z.c.masked s a (opd_nb oa.1) b (opd_nb oa.2) l1 l2 z.wq z.q z.so hl48 hopd hmz l3 hz.bd hz.so l4 hw).mono fun e w' h => outMap h (fun x => { z with c := { z.c.tick with begun := true, p := moveP z.c.p a b, st := [] }, Mc := x.1, q := moveQ z.q a b, so := x.2.2, wq := x.2.1 }) (fun x hx => fin x.1 x.2.1 x.2.2 hx.1 hx.2) (fun _ => rfl) (fun _ => rfl)
  · obtain ⟨s, hs⟩ := bare_suffix h
    rw [hs] at hl48 hopd hmz
    exact (ap_22 w bM bH _ z.Mc lo gl _ (frv z.K) z.vn z.hn z.v7 z.c.masked s a (opd_nb oa.1) l1 l2 z.wq z.q z.so hl48 hopd hmz l3 hz.bd hz.so l4 hw).mono fun e w' h => outMap h (fun x => { z with c := { z.c.tick with begun := true, p := moveP z.c.p a 0, st := [] }, Mc := x.1, q := moveQ z.q a 0, so := x.2.2, wq := x.2.1 }) (fun x hx => fin x.1 x.2.1 x.2.2 hx.1 hx.2) (fun _ => rfl) (fun _ => rfl)
  · obtain ⟨s, hs⟩ := bare_suffix h
    rw [hs] at hl48 hopd hmz
    exact (ap_4 w bM bH _ z.Mc lo gl _ (frv z.K) z.vn z.hn z.v7 z.c.masked s b (opd_nb oa.2) l1 l2 z.wq z.q z.so hl48 hopd hmz l3 hz.bd hz.so l4 hw).mono fun e w' h => outMap h (fun x => { z with c := { z.c.tick with begun := true, p := moveP z.c.p 0 b, st := [] }, Mc := x.1, q := moveQ z.q 0 b, so := x.2.2, wq := x.2.1 }) (fun x hx => fin x.1 x.2.1 x.2.2 hx.1 hx.2) (fun _ => rfl) (fun _ => rfl)
/-- Whatever operator but the last, with its own byte. -/
theorem apply_op {v : Nat} {c1 : CSt} (hz : ROk w0 S lo gl z) (ho : z.c.ops + 1 < 2000) (hv : v ≠ 14) (hr : OpR v z.c.tick c1) (hw : Hp w ((RH bM bH z).map (·.1)) (RH bM bH z) w) :
    Calls Tryz.prog 116 [.pointer (some ⟨bH, 0, none⟩), .pointer (some ⟨bM, 0, none⟩), .agg #[.int .u8 (v : Nat), .bool false]].toArray w (Out w ((RH bM bH z).map (·.1)) (Aft w0 S lo gl z c1 z.b z.K) (fun _ => .nilIface) (RH bM bH)) := by
  have hi := (hz.inv.op ho hr).1
  generalize hd : z.c.tick = d at hr
  cases hr with
  | stem h1 h2 h3 h4 => subst hd; exact apply_stem hz ho h1 h2 h3 h4 hw
  | rmove h1 => subst hd; exact apply_mv hz ho (.inl ⟨rfl, rfl, h1⟩) hi hw
  | hmove h1 => subst hd; exact apply_mv hz ho (.inr (.inl ⟨rfl, rfl, rfl, h1⟩)) hi hw
  | vmove h1 => subst hd; exact apply_mv hz ho (.inr (.inr ⟨rfl, rfl, rfl, h1⟩)) hi hw
  | fin h1 => exact absurd rfl hv
  | path h1 h2 => subst hd; exact apply_path hz ho h1 h2 hw
/-- The last operator. -/
theorem apply_fin {c1 : CSt} (hz : ROk w0 S lo gl z) (hr : OpR 14 z.c.tick c1) (hw : Hp w ((RH bM bH z).map (·.1)) (RH bM bH z) w) :
    Calls Tryz.prog 116 [.pointer (some ⟨bH, 0, none⟩), .pointer (some ⟨bM, 0, none⟩), .agg #[.int .u8 (14 : Nat), .bool false]].toArray w (Out w ((RH bM bH z).map (·.1)) (fun z' : RS => (∃ l, (c1.p.out = l.map IS.stk ∧ MvB l) ∧ z'.q.out = c1.p.out ∧ z'.q.bx = bnd (bpts l) ∧ slOk z'.so z'.q.out.length 7 (encG z'.q.out)) ∧ BxBd z'.q.bx (z.c.ops * 128849018880)) (fun _ => .iface 114 (.string { data := #[105, 110, 116, 101, 114, 114, 117, 112, 116, 105, 111, 110] })) (RH bM bH)) := by
  obtain ⟨l1, l2, l3, l4⟩ := hz.lens
  have hl48 := hz.inv.len
  have hp : c1.p = closeP z.c.p := by
    generalize hd : z.c.tick = d at hr
    generalize hv : (14 : Nat) = v at hr
    cases hr with
    | stem h1 _ _ _ => omega
    | rmove _ => cases hv
    | hmove _ => cases hv
    | vmove _ => cases hv
    | fin _ => subst hd; rfl
    | path _ h2 => subst hv; simp [pathP] at h2
  obtain ⟨l, e1, e2, e3⟩ := hz.rel.fin
  exact (ap_14 w bM bH _ z.Mc lo gl _ (frv z.K) z.vn z.hn z.v7 z.c.masked z.c.st l1 l2 z.wq z.q z.so hl48 hz.inv.opd hz.m l3 hz.bd hz.so l4 hw).mono fun e w' h => outMap h (fun x => { z with Mc := x.1, q := endQ z.q, so := x.2.2, wq := x.2.1 }) (fun x hx => ⟨⟨l, by rw [hp]; exact e2, by rw [hp]; exact e1, e3, hx.2⟩, hz.bd.bx⟩) (fun _ => rfl) (fun _ => rfl)
end
end Go.Proofs.YtbepljmeflndkaaGreatDoor
