/- Part 13 of the proof about FnCharstring. -/
import Derived.Test.YtbepljmeflndkaaGreatDoorQ12
import Derived.Test.YtbepljmeflndkaaGreatDoorQ10
namespace Go.Proofs.YtbepljmeflndkaaGreatDoor
open Go.Eng Go.Fl
set_option maxRecDepth 100000
attribute [local irreducible] IntKind.wrap Int.tdiv Int.tmod Int.emod maxLen F G
set_option maxHeartbeats 4000000 in
theorem f121_any (w : World) (bM bH M : Nat) (Mc : List Value) (lo gl ins : Value) (fr : List Value) (s : List Int) (a b : Int) (na : -2147483648 ≤ a ∧ a ≤ 2147483648) (nb_ : -2147483648 ≤ b ∧ b ≤ 2147483648) (hm : MOk Mc lo gl ins fr ((s ++ [a]) ++ [b])) (q : QSt) (so : Sv) (v5 v6 v7 v13 : Value) (wd : List Value) (hM : M + 120 * 2147483648 < 2 ^ 53) (hB : q.Bd M) (hok : slOk so q.out.length 7 (encG q.out)) (hlen : q.out.length ≤ 70000) (hw : Hp w (((bM, Mc, 95) :: (HB bH so q.out.length q.bx v5 v6 v7 q.x q.y q.fx q.fy q.io v13 ((q.bx).isSome) wd) :: slH so (encG q.out) 77).map (·.1)) ((bM, Mc, 95) :: (HB bH so q.out.length q.bx v5 v6 v7 q.x q.y q.fx q.fy q.io v13 ((q.bx).isSome) wd) :: slH so (encG q.out) 77) w) : Calls Tryz.prog 121 [.pointer (some ⟨bH, 0, none⟩), .pointer (some ⟨bM, 0, none⟩)].toArray w (Out w (((bM, Mc, 95) :: (HB bH so q.out.length q.bx v5 v6 v7 q.x q.y q.fx q.fy q.io v13 ((q.bx).isSome) wd) :: slH so (encG q.out) 77).map (·.1)) (fun z : Sv => slOk z (moveQ q a b).out.length 7 (encG (moveQ q a b).out)) (fun z => .nilIface) (fun z => (bM, ((Mc.set 527 (.int .i32 ((s ++ [a]).length : Nat))).set 527 (.int .i32 (s.length : Nat))), 95) :: (HB bH z (moveQ q a b).out.length ((moveQ q a b).bx) v5 v6 v7 ((moveQ q a b).x) ((moveQ q a b).y) ((moveQ q a b).fx) ((moveQ q a b).fy) ((moveQ q a b).io) v13 (((moveQ q a b).bx).isSome) wd) :: slH z (encG (moveQ q a b).out) 77)) := by
 have hml := hm.len
 have hms := hm.stl
 have hqx := nb hB.x
 have hqy := nb hB.y
 refine enter (n := 27) Tryz.func121 rfl rfl rfl hw ?_
 refine cR ?_
 refine lA rfl ?_
 refine nQ ?_
 refine c_seq ?_
 refine cR ?_
 refine lM rfl ?_
 refine lN rfl ?_
 refine lV (y_fieldAddr fo_95_4 rfl) ?_
 refine lV (y_fieldAddr fo_91_1 rfl) ?_
 refine lV (y_load1 ld_21 rfl m0 hm.tp) ?_
 refine lV (y_bin rfl rfl rfl (boolF (by simp only [List.length_append, List.length_singleton]; omega))) ?_
 refine nQ ?_
 refine c_false rfl rfl ?_
 refine kR ?_
 refine lM rfl ?_
 refine lN rfl ?_
 refine lV (y_fieldAddr fo_95_4 rfl) ?_
 refine l_call ok_143 rfl rfl (out_one [] (b := (bM, Mc, 95)) (fun w9 ha_ hb_ => f143_any w9 bM Mc lo gl ins fr (s ++ [a]) b hm hb_)) ?_
 intro _ _
 have hm_1 := hm.pop
 refine lA rfl ?_
 refine nR ?_
 refine lM rfl ?_
 refine lN rfl ?_
 refine lV (y_fieldAddr fo_95_4 rfl) ?_
 refine l_call ok_143 rfl rfl (out_one [] (b := (bM, (Mc.set 527 (.int .i32 ((s ++ [a]).length : Nat))), 95)) (fun w9 ha_ hb_ => f143_any w9 bM (Mc.set 527 (.int .i32 ((s ++ [a]).length : Nat))) lo gl ins fr s a hm_1 hb_)) ?_
 intro _ _
 have hm_2 := hm_1.pop
 refine lA rfl ?_
 refine nR ?_
 refine lM rfl ?_
 refine lM rfl ?_
 refine lM rfl ?_
 refine lV (y_build1 (out := [_, _]) bp_50 rfl rfl rfl) ?_
 refine l_call (vals := [.pointer (some ⟨bH, 0, none⟩), .agg #[.float .f64 (F a), .float .f64 (F b)]]) ok_145 rfl rfl (out_tail (A := [_]) (H1 := (HB bH so q.out.length q.bx v5 v6 v7 q.x q.y q.fx q.fy q.io v13 ((q.bx).isSome) wd) :: slH so (encG q.out) 77) (fun w9 ha_ hb_ => f145_any w9 bH M q so v5 v6 v7 v13 wd (by omega) hB a b (by omega) (by omega) (by omega) (by omega) hok (by omega) hb_)) ?_
 intro ⟨out2, so2⟩ ⟨hout, hok2⟩
 simp only at hout hok2 ⊢
 subst hout
 refine nR ?_
 refine lA rfl ?_
 refine nQ ?_
 refine c_ret ?_
 exact body_ret (rs := [.tmp 4]) rfl (vs := [.nilIface]) ⟨rfl, trivial⟩ (out_end so2 hok2 rfl .refl) _ (.inr rfl)
set_option maxHeartbeats 4000000 in
theorem f122_any (w : World) (bM bH M : Nat) (Mc : List Value) (lo gl ins : Value) (fr : List Value) (s : List Int) (a : Int) (na : -2147483648 ≤ a ∧ a ≤ 2147483648) (hm : MOk Mc lo gl ins fr (s ++ [a])) (q : QSt) (so : Sv) (v5 v6 v7 v13 : Value) (wd : List Value) (hM : M + 120 * 2147483648 < 2 ^ 53) (hB : q.Bd M) (hok : slOk so q.out.length 7 (encG q.out)) (hlen : q.out.length ≤ 70000) (hw : Hp w (((bM, Mc, 95) :: (HB bH so q.out.length q.bx v5 v6 v7 q.x q.y q.fx q.fy q.io v13 ((q.bx).isSome) wd) :: slH so (encG q.out) 77).map (·.1)) ((bM, Mc, 95) :: (HB bH so q.out.length q.bx v5 v6 v7 q.x q.y q.fx q.fy q.io v13 ((q.bx).isSome) wd) :: slH so (encG q.out) 77) w) : Calls Tryz.prog 122 [.pointer (some ⟨bH, 0, none⟩), .pointer (some ⟨bM, 0, none⟩)].toArray w (Out w (((bM, Mc, 95) :: (HB bH so q.out.length q.bx v5 v6 v7 q.x q.y q.fx q.fy q.io v13 ((q.bx).isSome) wd) :: slH so (encG q.out) 77).map (·.1)) (fun z : Sv => slOk z (moveQ q a 0).out.length 7 (encG (moveQ q a 0).out)) (fun z => .nilIface) (fun z => (bM, (Mc.set 527 (.int .i32 (s.length : Nat))), 95) :: (HB bH z (moveQ q a 0).out.length ((moveQ q a 0).bx) v5 v6 v7 ((moveQ q a 0).x) ((moveQ q a 0).y) ((moveQ q a 0).fx) ((moveQ q a 0).fy) ((moveQ q a 0).io) v13 (((moveQ q a 0).bx).isSome) wd) :: slH z (encG (moveQ q a 0).out) 77)) := by
 have hml := hm.len
 have hms := hm.stl
 have hqx := nb hB.x
 have hqy := nb hB.y
 refine enter (n := 21) Tryz.func122 rfl rfl rfl hw ?_
 refine cR ?_
 refine lA rfl ?_
 refine nQ ?_
 refine c_seq ?_
 refine cR ?_
 refine lM rfl ?_
 refine lN rfl ?_
 refine lV (y_fieldAddr fo_95_4 rfl) ?_
 refine lV (y_fieldAddr fo_91_1 rfl) ?_
 refine lV (y_load1 ld_21 rfl m0 hm.tp) ?_
 refine lV (y_bin rfl rfl rfl (boolF (by simp only [List.length_append, List.length_singleton]; omega))) ?_
 refine nQ ?_
 refine c_false rfl rfl ?_
 refine kR ?_
 refine lM rfl ?_
 refine lN rfl ?_
 refine lV (y_fieldAddr fo_95_4 rfl) ?_
 refine l_call ok_143 rfl rfl (out_one [] (b := (bM, Mc, 95)) (fun w9 ha_ hb_ => f143_any w9 bM Mc lo gl ins fr s a hm hb_)) ?_
 intro _ _
 have hm_1 := hm.pop
 refine lA rfl ?_
 refine nR ?_
 refine lM rfl ?_
 refine lM rfl ?_
 refine lV (y_build1 (out := [_, _]) bp_50 rfl rfl rfl) ?_
 refine l_call (vals := [.pointer (some ⟨bH, 0, none⟩), .agg #[.float .f64 (F a), .float .f64 (F 0)]]) ok_145 (by rw [F_zero]; rfl) rfl (out_tail (A := [_]) (H1 := (HB bH so q.out.length q.bx v5 v6 v7 q.x q.y q.fx q.fy q.io v13 ((q.bx).isSome) wd) :: slH so (encG q.out) 77) (fun w9 ha_ hb_ => f145_any w9 bH M q so v5 v6 v7 v13 wd (by omega) hB a 0 (by omega) (by omega) (by omega) (by omega) hok (by omega) hb_)) ?_
 intro ⟨out2, so2⟩ ⟨hout, hok2⟩
 simp only at hout hok2 ⊢
 subst hout
 refine nR ?_
 refine lA rfl ?_
 refine nQ ?_
 refine c_ret ?_
 exact body_ret (rs := [.tmp 4]) rfl (vs := [.nilIface]) ⟨rfl, trivial⟩ (out_end so2 hok2 rfl .refl) _ (.inr rfl)
set_option maxHeartbeats 4000000 in
theorem f123_any (w : World) (bM bH M : Nat) (Mc : List Value) (lo gl ins : Value) (fr : List Value) (s : List Int) (b : Int) (nb_ : -2147483648 ≤ b ∧ b ≤ 2147483648) (hm : MOk Mc lo gl ins fr (s ++ [b])) (q : QSt) (so : Sv) (v5 v6 v7 v13 : Value) (wd : List Value) (hM : M + 120 * 2147483648 < 2 ^ 53) (hB : q.Bd M) (hok : slOk so q.out.length 7 (encG q.out)) (hlen : q.out.length ≤ 70000) (hw : Hp w (((bM, Mc, 95) :: (HB bH so q.out.length q.bx v5 v6 v7 q.x q.y q.fx q.fy q.io v13 ((q.bx).isSome) wd) :: slH so (encG q.out) 77).map (·.1)) ((bM, Mc, 95) :: (HB bH so q.out.length q.bx v5 v6 v7 q.x q.y q.fx q.fy q.io v13 ((q.bx).isSome) wd) :: slH so (encG q.out) 77) w) : Calls Tryz.prog 123 [.pointer (some ⟨bH, 0, none⟩), .pointer (some ⟨bM, 0, none⟩)].toArray w (Out w (((bM, Mc, 95) :: (HB bH so q.out.length q.bx v5 v6 v7 q.x q.y q.fx q.fy q.io v13 ((q.bx).isSome) wd) :: slH so (encG q.out) 77).map (·.1)) (fun z : Sv => slOk z (moveQ q 0 b).out.length 7 (encG (moveQ q 0 b).out)) (fun z => .nilIface) (fun z => (bM, (Mc.set 527 (.int .i32 (s.length : Nat))), 95) :: (HB bH z (moveQ q 0 b).out.length ((moveQ q 0 b).bx) v5 v6 v7 ((moveQ q 0 b).x) ((moveQ q 0 b).y) ((moveQ q 0 b).fx) ((moveQ q 0 b).fy) ((moveQ q 0 b).io) v13 (((moveQ q 0 b).bx).isSome) wd) :: slH z (encG (moveQ q 0 b).out) 77)) := by
 have hml := hm.len
 have hms := hm.stl
 have hqx := nb hB.x
 have hqy := nb hB.y
 refine enter (n := 21) Tryz.func123 rfl rfl rfl hw ?_
 refine cR ?_
 refine lA rfl ?_
 refine nQ ?_
 refine c_seq ?_
 refine cR ?_
 refine lM rfl ?_
 refine lN rfl ?_
 refine lV (y_fieldAddr fo_95_4 rfl) ?_
 refine lV (y_fieldAddr fo_91_1 rfl) ?_
 refine lV (y_load1 ld_21 rfl m0 hm.tp) ?_
 refine lV (y_bin rfl rfl rfl (boolF (by simp only [List.length_append, List.length_singleton]; omega))) ?_
 refine nQ ?_
 refine c_false rfl rfl ?_
 refine kR ?_
 refine lM rfl ?_
 refine lN rfl ?_
 refine lV (y_fieldAddr fo_95_4 rfl) ?_
 refine l_call ok_143 rfl rfl (out_one [] (b := (bM, Mc, 95)) (fun w9 ha_ hb_ => f143_any w9 bM Mc lo gl ins fr s b hm hb_)) ?_
 intro _ _
 have hm_1 := hm.pop
 refine lA rfl ?_
 refine nR ?_
 refine lM rfl ?_
 refine lM rfl ?_
 refine lV (y_build1 (out := [_, _]) bp_50 rfl rfl rfl) ?_
 refine l_call (vals := [.pointer (some ⟨bH, 0, none⟩), .agg #[.float .f64 (F 0), .float .f64 (F b)]]) ok_145 (by rw [F_zero]; rfl) rfl (out_tail (A := [_]) (H1 := (HB bH so q.out.length q.bx v5 v6 v7 q.x q.y q.fx q.fy q.io v13 ((q.bx).isSome) wd) :: slH so (encG q.out) 77) (fun w9 ha_ hb_ => f145_any w9 bH M q so v5 v6 v7 v13 wd (by omega) hB 0 b (by omega) (by omega) (by omega) (by omega) hok (by omega) hb_)) ?_
 intro ⟨out2, so2⟩ ⟨hout, hok2⟩
 simp only at hout hok2 ⊢
 subst hout
 refine nR ?_
 refine lA rfl ?_
 refine nQ ?_
 refine c_ret ?_
 exact body_ret (rs := [.tmp 4]) rfl (vs := [.nilIface]) ⟨rfl, trivial⟩ (out_end so2 hok2 rfl .refl) _ (.inr rfl)
set_option maxHeartbeats 2000000 in
theorem f124_any (w : World) (bM bH n : Nat) (hn : n ≤ 1000000) (Mc : List Value) (lo gl ins : Value) (fr : List Value) (st : List Int) (hm : MOk Mc lo gl ins fr st) (q : QSt) (so : Sv) (v5 v7 v13 : Value) (wd : List Value) (hw : Hp w (([(bM, Mc, 95), (HB bH so q.out.length q.bx v5 (.int .i32 (n : Nat)) v7 q.x q.y q.fx q.fy q.io v13 ((q.bx).isSome) wd)]).map (·.1)) [(bM, Mc, 95), (HB bH so q.out.length q.bx v5 (.int .i32 (n : Nat)) v7 q.x q.y q.fx q.fy q.io v13 ((q.bx).isSome) wd)] w) : Calls Tryz.prog 124 [.pointer (some ⟨bH, 0, none⟩), .pointer (some ⟨bM, 0, none⟩)].toArray w (Out w (([(bM, Mc, 95), (HB bH so q.out.length q.bx v5 (.int .i32 (n : Nat)) v7 q.x q.y q.fx q.fy q.io v13 ((q.bx).isSome) wd)]).map (·.1)) (fun z : Unit => True) (fun z => .tuple #[]) (fun z => [(bM, Mc, 95), (HB bH so q.out.length q.bx v5 (.int .i32 ((n + st.length / 2) : Nat)) v7 q.x q.y q.fx q.fy q.io v13 ((q.bx).isSome) wd)])) := by
 have hml := hm.len
 have hms := hm.stl
 refine enter (n := 17) Tryz.func124 rfl rfl rfl hw ?_
 refine c_draw [(bM, Mc, 95)] mixed rfl ?_
 refine dM 0 rfl rfl ?_
 refine dN 1 rfl rfl ?_
 refine dV 2 rfl (y_fieldAddr fo_97_3 rfl) ?_
 refine dM 4 rfl rfl ?_
 refine dN 5 rfl rfl ?_
 refine dV 6 rfl (y_fieldAddr fo_95_4 rfl) ?_
 refine dV 7 rfl (y_fieldAddr fo_91_1 rfl) ?_
 refine dV 8 rfl (y_load1 ld_21 rfl m0 hm.tp) ?_
 refine dV 9 rfl (y_quo rfl rfl (by decide) (quoI 2 rfl (by omega))) ?_
 refine d_ready (i := 3) (rs := []) (by kernel_rfl) (.cons .here .nil) (all_one ?_)
 refine o_gives rfl rfl rfl (gy (y_load1 ld_21 rfl m1 rfl)) rfl ?_
 intro _ _
 refine dV 10 rfl (y_bin rfl rfl rfl (fitI (m := n + st.length / 2) (by omega) (by omega))) ?_
 refine dN 11 rfl rfl ?_
 refine dV 12 rfl (y_fieldAddr fo_97_3 rfl) ?_
 refine d_ready (i := 13) (rs := []) (by kernel_rfl) (.cons .here .nil) (all_one ?_)
 refine o_does rfl rfl rfl (g_store1 (cs' := _ :: _ :: _ :: _ :: _ :: _ :: _ :: _) sz_21 rfl rfl (by first | rfl | exact slV_cells _ _ | exact fvV_cells _ _) rfl (by first | rfl | exact slV_one _ _ | exact fvV_one _ _) rfl (.there .here)) ?_
 intro _ _
 refine d_end (by kernel_rfl) (.cons .here .nil) ?_
 exact body_ret (rs := []) rfl (vs := []) trivial (out_end () trivial rfl .refl) _ (.inl rfl)
set_option maxHeartbeats 2000000 in
theorem f125_any (w : World) (bM bH n : Nat) (hn : n ≤ 1000000) (Mc : List Value) (lo gl ins : Value) (fr : List Value) (st : List Int) (hm : MOk Mc lo gl ins fr st) (q : QSt) (so : Sv) (v6 v7 v13 : Value) (wd : List Value) (hw : Hp w (([(bM, Mc, 95), (HB bH so q.out.length q.bx (.int .i32 (n : Nat)) v6 v7 q.x q.y q.fx q.fy q.io v13 ((q.bx).isSome) wd)]).map (·.1)) [(bM, Mc, 95), (HB bH so q.out.length q.bx (.int .i32 (n : Nat)) v6 v7 q.x q.y q.fx q.fy q.io v13 ((q.bx).isSome) wd)] w) : Calls Tryz.prog 125 [.pointer (some ⟨bH, 0, none⟩), .pointer (some ⟨bM, 0, none⟩)].toArray w (Out w (([(bM, Mc, 95), (HB bH so q.out.length q.bx (.int .i32 (n : Nat)) v6 v7 q.x q.y q.fx q.fy q.io v13 ((q.bx).isSome) wd)]).map (·.1)) (fun z : Unit => True) (fun z => .tuple #[]) (fun z => [(bM, Mc, 95), (HB bH so q.out.length q.bx (.int .i32 ((n + st.length / 2) : Nat)) v6 v7 q.x q.y q.fx q.fy q.io v13 ((q.bx).isSome) wd)])) := by
 have hml := hm.len
 have hms := hm.stl
 refine enter (n := 17) Tryz.func125 rfl rfl rfl hw ?_
 refine c_draw [(bM, Mc, 95)] mixed rfl ?_
 refine dM 0 rfl rfl ?_
 refine dN 1 rfl rfl ?_
 refine dV 2 rfl (y_fieldAddr fo_97_2 rfl) ?_
 refine dM 4 rfl rfl ?_
 refine dN 5 rfl rfl ?_
 refine dV 6 rfl (y_fieldAddr fo_95_4 rfl) ?_
 refine dV 7 rfl (y_fieldAddr fo_91_1 rfl) ?_
 refine dV 8 rfl (y_load1 ld_21 rfl m0 hm.tp) ?_
 refine dV 9 rfl (y_quo rfl rfl (by decide) (quoI 2 rfl (by omega))) ?_
 refine d_ready (i := 3) (rs := []) (by kernel_rfl) (.cons .here .nil) (all_one ?_)
 refine o_gives rfl rfl rfl (gy (y_load1 ld_21 rfl m1 rfl)) rfl ?_
 intro _ _
 refine dV 10 rfl (y_bin rfl rfl rfl (fitI (m := n + st.length / 2) (by omega) (by omega))) ?_
 refine dN 11 rfl rfl ?_
 refine dV 12 rfl (y_fieldAddr fo_97_2 rfl) ?_
 refine d_ready (i := 13) (rs := []) (by kernel_rfl) (.cons .here .nil) (all_one ?_)
 refine o_does rfl rfl rfl (g_store1 (cs' := _ :: _ :: _ :: _ :: _ :: _ :: _) sz_21 rfl rfl (by first | rfl | exact slV_cells _ _ | exact fvV_cells _ _) rfl (by first | rfl | exact slV_one _ _ | exact fvV_one _ _) rfl (.there .here)) ?_
 intro _ _
 refine d_end (by kernel_rfl) (.cons .here .nil) ?_
 exact body_ret (rs := []) rfl (vs := []) trivial (out_end () trivial rfl .refl) _ (.inl rfl)
set_option maxHeartbeats 2000000 in
theorem f146_f (w : World) (bM bH vn hn : Nat) (hvn : vn ≤ 1000000) (hhn : hn ≤ 1000000) (Mc : List Value) (lo gl ins : Value) (fr : List Value) (st : List Int) (hm : MOk Mc lo gl ins fr st) (q : QSt) (so : Sv) (v7 : Value) (wd : List Value) (hw : Hp w (([(bM, Mc, 95), (HB bH so q.out.length q.bx (.int .i32 (vn : Nat)) (.int .i32 (hn : Nat)) v7 q.x q.y q.fx q.fy q.io (.bool false) ((q.bx).isSome) wd)]).map (·.1)) [(bM, Mc, 95), (HB bH so q.out.length q.bx (.int .i32 (vn : Nat)) (.int .i32 (hn : Nat)) v7 q.x q.y q.fx q.fy q.io (.bool false) ((q.bx).isSome) wd)] w) : Calls Tryz.prog 146 [.pointer (some ⟨bH, 0, none⟩), .pointer (some ⟨bM, 0, none⟩)].toArray w (Out w (([(bM, Mc, 95), (HB bH so q.out.length q.bx (.int .i32 (vn : Nat)) (.int .i32 (hn : Nat)) v7 q.x q.y q.fx q.fy q.io (.bool false) ((q.bx).isSome) wd)]).map (·.1)) (fun z : Unit => True) (fun z => .tuple #[]) (fun z => [(bM, Mc, 95), (HB bH so q.out.length q.bx (.int .i32 ((vn + st.length / 2) : Nat)) (.int .i32 (hn : Nat)) (.int .i32 (((hn + (vn + st.length / 2) + 7) / 8) : Nat)) q.x q.y q.fx q.fy q.io (.bool true) ((q.bx).isSome) wd)])) := by
 have hml := hm.len
 have hms := hm.stl
 refine enter (n := 39) Tryz.func146 rfl rfl rfl hw ?_
 refine cR ?_
 refine lM rfl ?_
 refine lN rfl ?_
 refine lV (y_fieldAddr fo_97_8 rfl) ?_
 refine lV (y_load1 ld_4 rfl m1 rfl) ?_
 refine lV (y_not rfl) ?_
 refine nQ ?_
 refine c_true rfl rfl ?_
 refine c_seq ?_
 refine c_draw [(bM, Mc, 95)] mixed rfl ?_
 refine dM 0 rfl rfl ?_
 refine dN 1 rfl rfl ?_
 refine dV 2 rfl (y_fieldAddr fo_97_2 rfl) ?_
 refine dM 4 rfl rfl ?_
 refine dN 5 rfl rfl ?_
 refine dV 6 rfl (y_fieldAddr fo_95_4 rfl) ?_
 refine dV 7 rfl (y_fieldAddr fo_91_1 rfl) ?_
 refine dV 8 rfl (y_load1 ld_21 rfl m0 hm.tp) ?_
 refine dV 9 rfl (y_quo rfl rfl (by decide) (quoI 2 rfl (by omega))) ?_
 refine d_ready (i := 3) (rs := []) (by kernel_rfl) (.cons .here .nil) (all_one ?_)
 refine o_gives rfl rfl rfl (gy (y_load1 ld_21 rfl m1 rfl)) rfl ?_
 intro _ _
 refine dV 10 rfl (y_bin rfl rfl rfl (fitI (m := vn + st.length / 2) (by omega) (by omega))) ?_
 refine dN 11 rfl rfl ?_
 refine dV 12 rfl (y_fieldAddr fo_97_2 rfl) ?_
 refine d_ready (i := 13) (rs := []) (by kernel_rfl) (.cons .here .nil) (all_one ?_)
 refine o_does rfl rfl rfl (g_store1 (cs' := _ :: _ :: _ :: _ :: _ :: _ :: _) sz_21 rfl rfl (by first | rfl | exact slV_cells _ _ | exact fvV_cells _ _) rfl (by first | rfl | exact slV_one _ _ | exact fvV_one _ _) rfl (.there .here)) ?_
 intro _ _
 refine d_end (by kernel_rfl) (.cons .here .nil) ?_
 refine q_then ?_
 refine c_seq ?_
 refine c_draw [(bM, Mc, 95)] mixed rfl ?_
 refine dM 0 rfl rfl ?_
 refine dM 1 rfl rfl ?_
 refine dN 2 rfl rfl ?_
 refine dV 3 rfl (y_fieldAddr fo_97_3 rfl) ?_
 refine dM 5 rfl rfl ?_
 refine dN 6 rfl rfl ?_
 refine dV 7 rfl (y_fieldAddr fo_97_2 rfl) ?_
 refine d_ready (i := 4) (rs := [8]) (by kernel_rfl) (.cons .here .nil) (all_cons ?_ (all_one ?_))
 ·refine o_gives rfl rfl rfl (gy (y_load1 ld_21 rfl m1 rfl)) rfl ?_
  intro _ _
  refine d_ready (i := 8) (rs := []) (by kernel_rfl) (.cons .here .nil) (all_one ?_)
  refine o_gives rfl rfl rfl (gy (y_load1 ld_21 rfl m1 rfl)) rfl ?_
  intro _ _
  refine dV 9 rfl (y_bin rfl rfl rfl (fitI (m := hn + (vn + st.length / 2)) (by omega) (by omega))) ?_
  refine dV 10 rfl (y_bin rfl rfl rfl (fitI (m := hn + (vn + st.length / 2) + 7) (by omega) (by omega))) ?_
  refine dV 11 rfl (y_shr (s := 3) rfl rfl (by decide) shrI) ?_
  refine dN 12 rfl rfl ?_
  refine dV 13 rfl (y_fieldAddr fo_97_4 rfl) ?_
  refine d_ready (i := 14) (rs := []) (by kernel_rfl) (.cons .here .nil) (all_one ?_)
  refine o_does rfl rfl rfl (g_store1 (cs' := _ :: _ :: _ :: _ :: _ :: _ :: _ :: _ :: _) sz_21 rfl rfl (by first | rfl | exact slV_cells _ _ | exact fvV_cells _ _) rfl (by first | rfl | exact slV_one _ _ | exact fvV_one _ _) rfl (.there .here)) ?_
  intro _ _
  refine d_end (by kernel_rfl) (.cons .here .nil) ?_
  refine qG ?_
  refine lM rfl ?_
  refine lN rfl ?_
  refine lV (y_fieldAddr fo_97_8 rfl) ?_
  refine l_does rfl rfl (g_store1 (cs' := _ :: _ :: _ :: _ :: _ :: _ :: _ :: _ :: _ :: _ :: _ :: _ :: _ :: _ :: _) sz_4 rfl rfl (by first | rfl | exact slV_cells _ _ | exact fvV_cells _ _) rfl (by first | rfl | exact slV_one _ _ | exact fvV_one _ _) rfl (.there .here)) ?_
  intro _ _
  refine l_nil ?_
  exact body_ret (rs := []) rfl (vs := []) trivial (out_end () trivial rfl .refl) _ (.inl rfl)
 ·refine o_gives rfl rfl rfl (gy (y_load1 ld_21 rfl m1 rfl)) rfl ?_
  intro _ _
  refine d_ready (i := 4) (rs := []) (by kernel_rfl) (.cons .here .nil) (all_one ?_)
  refine o_gives rfl rfl rfl (gy (y_load1 ld_21 rfl m1 rfl)) rfl ?_
  intro _ _
  refine dV 9 rfl (y_bin rfl rfl rfl (fitI (m := hn + (vn + st.length / 2)) (by omega) (by omega))) ?_
  refine dV 10 rfl (y_bin rfl rfl rfl (fitI (m := hn + (vn + st.length / 2) + 7) (by omega) (by omega))) ?_
  refine dV 11 rfl (y_shr (s := 3) rfl rfl (by decide) shrI) ?_
  refine dN 12 rfl rfl ?_
  refine dV 13 rfl (y_fieldAddr fo_97_4 rfl) ?_
  refine d_ready (i := 14) (rs := []) (by kernel_rfl) (.cons .here .nil) (all_one ?_)
  refine o_does rfl rfl rfl (g_store1 (cs' := _ :: _ :: _ :: _ :: _ :: _ :: _ :: _ :: _) sz_21 rfl rfl (by first | rfl | exact slV_cells _ _ | exact fvV_cells _ _) rfl (by first | rfl | exact slV_one _ _ | exact fvV_one _ _) rfl (.there .here)) ?_
  intro _ _
  refine d_end (by kernel_rfl) (.cons .here .nil) ?_
  refine qG ?_
  refine lM rfl ?_
  refine lN rfl ?_
  refine lV (y_fieldAddr fo_97_8 rfl) ?_
  refine l_does rfl rfl (g_store1 (cs' := _ :: _ :: _ :: _ :: _ :: _ :: _ :: _ :: _ :: _ :: _ :: _ :: _ :: _ :: _) sz_4 rfl rfl (by first | rfl | exact slV_cells _ _ | exact fvV_cells _ _) rfl (by first | rfl | exact slV_one _ _ | exact fvV_one _ _) rfl (.there .here)) ?_
  intro _ _
  refine l_nil ?_
  exact body_ret (rs := []) rfl (vs := []) trivial (out_end () trivial rfl .refl) _ (.inl rfl)
set_option maxHeartbeats 2000000 in
theorem f146_t (w : World) (bM bH vn hn : Nat) (hvn : vn ≤ 1000000) (hhn : hn ≤ 1000000) (Mc : List Value) (lo gl ins : Value) (fr : List Value) (st : List Int) (hm : MOk Mc lo gl ins fr st) (q : QSt) (so : Sv) (v7 : Value) (wd : List Value) (hw : Hp w (([(bM, Mc, 95), (HB bH so q.out.length q.bx (.int .i32 (vn : Nat)) (.int .i32 (hn : Nat)) v7 q.x q.y q.fx q.fy q.io (.bool true) ((q.bx).isSome) wd)]).map (·.1)) [(bM, Mc, 95), (HB bH so q.out.length q.bx (.int .i32 (vn : Nat)) (.int .i32 (hn : Nat)) v7 q.x q.y q.fx q.fy q.io (.bool true) ((q.bx).isSome) wd)] w) : Calls Tryz.prog 146 [.pointer (some ⟨bH, 0, none⟩), .pointer (some ⟨bM, 0, none⟩)].toArray w (Out w (([(bM, Mc, 95), (HB bH so q.out.length q.bx (.int .i32 (vn : Nat)) (.int .i32 (hn : Nat)) v7 q.x q.y q.fx q.fy q.io (.bool true) ((q.bx).isSome) wd)]).map (·.1)) (fun z : Unit => True) (fun z => .tuple #[]) (fun z => [(bM, Mc, 95), (HB bH so q.out.length q.bx (.int .i32 (vn : Nat)) (.int .i32 (hn : Nat)) v7 q.x q.y q.fx q.fy q.io (.bool true) ((q.bx).isSome) wd)])) := by
 have hml := hm.len
 have hms := hm.stl
 refine enter (n := 39) Tryz.func146 rfl rfl rfl hw ?_
 refine cR ?_
 refine lM rfl ?_
 refine lN rfl ?_
 refine lV (y_fieldAddr fo_97_8 rfl) ?_
 refine lV (y_load1 ld_4 rfl m1 rfl) ?_
 refine lV (y_not rfl) ?_
 refine nQ ?_
 refine c_false rfl rfl ?_
 refine c_skip ?_
 exact body_ret (rs := []) rfl (vs := []) trivial (out_end () trivial rfl .refl) _ (.inl rfl)
set_option maxHeartbeats 2000000 in
theorem f147_any (w : World) (bM k m cl : Nat) (p : Addr) (hk : k < m) (hcl : m ≤ cl) (hk3 : k ≤ 1000000) (Mc : List Value) (lo gl : Value) (fr : List Value) (st : List Int) (hm : MOk Mc lo gl (.slice (some p) m cl) fr st) (hw : Hp w [bM] [(bM, Mc, 95)] w) : Calls Tryz.prog 147 [.pointer (some ⟨bM, 0, none⟩), .int .i32 (k : Nat)].toArray w (Out w [bM] (fun z : Unit => True) (fun z => .tuple #[]) (fun z => [(bM, ((Mc.set 2 (.slice (some (if cl = k then p else p.add (k * 1))) (m - k) (cl - k))).set 527 (.int .i32 0)), 95)])) := by
 have hml := hm.len
 refine enter (n := 25) Tryz.func147 rfl rfl rfl hw ?_
 refine c_seq ?_
 refine cR ?_
 refine lM rfl ?_
 refine lV (y_conv cv_21_3 rfl (fitN (m := k) rfl (by omega))) ?_
 refine lM rfl ?_
 refine lN rfl ?_
 refine lV (y_fieldAddr fo_95_2 rfl) ?_
 refine lV (y_load1 ld_22 rfl m0 hm.cod) ?_
 refine lV (y_len sl_22 rfl) ?_
 refine lV (y_bin rfl rfl rfl (boolF (by omega))) ?_
 refine nQ ?_
 refine c_false rfl rfl ?_
 refine kR ?_
 refine lM rfl ?_
 refine lM rfl ?_
 refine lN rfl ?_
 refine lV (y_fieldAddr fo_95_2 rfl) ?_
 refine lV (y_load1 ld_22 rfl m0 hm.cod) ?_
 refine lM rfl ?_
 refine lV (y_sliceLoK (i := k) es_22 rfl rfl (by omega) hcl) ?_
 refine lN rfl ?_
 refine lV (y_fieldAddr fo_95_2 rfl) ?_
 refine l_does rfl rfl (g_store1 (cs' := (Mc.set 2 (.slice (some (if cl = k then p else p.add (k * 1))) (m - k) (cl - k)))) sz_22 rfl rfl (by first | rfl | assumption) (blt_of (by first | omega | (simp only [List.length_set]; omega))) (by first | rfl | assumption) rfl .here) ?_
 intro _ _
 refine nG ?_
 refine lM rfl ?_
 refine lN rfl ?_
 refine lV (y_fieldAddr fo_95_4 rfl) ?_
 refine l_call ok_141 rfl rfl (out_all (H1 := [(bM, (Mc.set 2 (.slice (some (if cl = k then p else p.add (k * 1))) (m - k) (cl - k))), 95)]) (fun w9 ha_ hb_ => f141_any w9 bM (Mc.set 2 (.slice (some (if cl = k then p else p.add (k * 1))) (m - k) (cl - k))) lo gl (.slice (some (if cl = k then p else p.add (k * 1))) (m - k) (cl - k)) fr st (hm.setIns (.slice (some (if cl = k then p else p.add (k * 1))) (m - k) (cl - k))) hb_)) ?_
 intro _ _
 refine l_nil ?_
 exact body_ret (rs := []) rfl (vs := []) trivial (out_end () trivial rfl .refl) _ (.inl rfl)
theorem f119_any (w : World) (bM : Nat) (Mc : List Value) (ins : Value) (fr : List Value) (s : List Int) (Alo Agl Ai : Option Addr) (cLo cGl nlo ngl m ci : Nat) (k : Int) (j : Nat) (hk : k + 107 = j) (hkb : -32768 ≤ k ∧ k ≤ 32768) (hE : RdE w [bM] Alo j (.slice Ai m ci)) (hjl : j < nlo) (hl3 : nlo ≤ 300) (hf : fr.length < 10) (hi1 : ins.cells = #[ins]) (hi2 : ins.oneCell' = true) (hm : MOk Mc (.slice Alo nlo cLo) (.slice Agl ngl cGl) ins fr (s ++ [k * 65536])) (hw : Hp w [bM] [(bM, Mc, 95)] w) : Calls Tryz.prog 119 [.pointer (some ⟨bM, 0, none⟩)].toArray w (Out w [bM] (fun z : Unit => True) (fun z => .nilIface) (fun z => [(bM, ((((Mc.set 527 (.int .i32 (s.length : Nat))).set (3 + fr.length * 1) ins).set 13 (.int .i32 ((fr.length + 1 : Nat) : Int))).set 2 (.slice Ai m ci)), 95)])) := by
 have hml := hm.len
 have hms := hm.stl
 rw [List.length_append, List.length_singleton] at hms
 have hk65 : (k * 65536).tdiv 65536 = k := Int.mul_tdiv_cancel k (by decide)
 refine enter (n := 19) Tryz.func119 rfl rfl rfl hw ?_
 refine cR ?_
 refine lA rfl ?_
 refine nQ ?_
 refine c_seq ?_
 refine cR ?_
 refine lM rfl ?_
 refine lN rfl ?_
 refine lV (y_fieldAddr fo_95_4 rfl) ?_
 refine lV (y_fieldAddr fo_91_1 rfl) ?_
 refine lV (y_load1 ld_21 rfl m0 hm.tp) ?_
 refine lV (y_bin rfl rfl rfl (boolF (by rw [List.length_append, List.length_singleton]; omega))) ?_
 refine nQ ?_
 refine c_false rfl rfl ?_
 refine kR ?_
 refine lM rfl ?_
 refine lN rfl ?_
 refine lV (y_fieldAddr fo_95_4 rfl) ?_
 refine l_call ok_143 rfl rfl (out_all (H1 := [(bM, Mc, 95)]) (fun w9 ha_ hb_ => f143_any w9 bM Mc _ _ ins fr s (k * 65536) hm hb_)) ?_
 intro _ _
 have hm2 := hm.pop
 refine lV (y_convFI cv_41_21 rfl (RF_F (q := k * 65536) (by omega)) (by rw [hk65]; show (-2147483648 : Int) ≤ _; omega) (by rw [hk65]; show _ ≤ (2147483647 : Int); omega)) ?_
 refine lA rfl ?_
 refine nR ?_
 refine lM rfl ?_
 refine lM rfl ?_
 rw [hk65]
 refine l_call ok_144 rfl rfl (out_all (H1 := [(bM, (Mc.set 527 (.int .i32 (s.length : Nat))), 95)]) (fun w9 ha_ hb_ => f144_any w9 bM (Mc.set 527 (.int .i32 (s.length : Nat))) ins fr s Alo Agl Ai cLo cGl nlo ngl m ci true k j hk (hE.into ha_) hjl hl3 hf hi1 hi2 hm2 hb_)) ?_
 intro _ _
 refine lA rfl ?_
 refine nQ ?_
 refine c_ret ?_
 exact body_ret (rs := [.tmp 2]) rfl (vs := [.nilIface]) ⟨rfl, trivial⟩ (out_end () trivial rfl .refl) _ (.inr rfl)
set_option maxHeartbeats 4000000 in
theorem f120_any (w : World) (bM : Nat) (Mc : List Value) (ins : Value) (fr : List Value) (s : List Int) (Alo Agl Ai : Option Addr) (cLo cGl nlo ngl m ci : Nat) (k : Int) (j : Nat) (hk : k + 107 = j) (hkb : -32768 ≤ k ∧ k ≤ 32768) (hE : RdE w [bM] Agl j (.slice Ai m ci)) (hjl : j < ngl) (hl3 : ngl ≤ 300) (hf : fr.length < 10) (hi1 : ins.cells = #[ins]) (hi2 : ins.oneCell' = true) (hm : MOk Mc (.slice Alo nlo cLo) (.slice Agl ngl cGl) ins fr (s ++ [k * 65536])) (hw : Hp w [bM] [(bM, Mc, 95)] w) : Calls Tryz.prog 120 [.pointer (some ⟨bM, 0, none⟩)].toArray w (Out w [bM] (fun z : Unit => True) (fun z => .nilIface) (fun z => [(bM, ((((Mc.set 527 (.int .i32 (s.length : Nat))).set (3 + fr.length * 1) ins).set 13 (.int .i32 ((fr.length + 1 : Nat) : Int))).set 2 (.slice Ai m ci)), 95)])) := by
 have hml := hm.len
 have hms := hm.stl
 rw [List.length_append, List.length_singleton] at hms
 have hk65 : (k * 65536).tdiv 65536 = k := Int.mul_tdiv_cancel k (by decide)
 refine enter (n := 19) Tryz.func120 rfl rfl rfl hw ?_
 refine cR ?_
 refine lA rfl ?_
 refine nQ ?_
 refine c_seq ?_
 refine cR ?_
 refine lM rfl ?_
 refine lN rfl ?_
 refine lV (y_fieldAddr fo_95_4 rfl) ?_
 refine lV (y_fieldAddr fo_91_1 rfl) ?_
 refine lV (y_load1 ld_21 rfl m0 hm.tp) ?_
 refine lV (y_bin rfl rfl rfl (boolF (by rw [List.length_append, List.length_singleton]; omega))) ?_
 refine nQ ?_
 refine c_false rfl rfl ?_
 refine kR ?_
 refine lM rfl ?_
 refine lN rfl ?_
 refine lV (y_fieldAddr fo_95_4 rfl) ?_
 refine l_call ok_143 rfl rfl (out_all (H1 := [(bM, Mc, 95)]) (fun w9 ha_ hb_ => f143_any w9 bM Mc _ _ ins fr s (k * 65536) hm hb_)) ?_
 intro _ _
 have hm2 := hm.pop
 refine lV (y_convFI cv_41_21 rfl (RF_F (q := k * 65536) (by omega)) (by rw [hk65]; show (-2147483648 : Int) ≤ _; omega) (by rw [hk65]; show _ ≤ (2147483647 : Int); omega)) ?_
 refine lA rfl ?_
 refine nR ?_
 refine lM rfl ?_
 refine lM rfl ?_
 rw [hk65]
 refine l_call ok_144 rfl rfl (out_all (H1 := [(bM, (Mc.set 527 (.int .i32 (s.length : Nat))), 95)]) (fun w9 ha_ hb_ => f144_any w9 bM (Mc.set 527 (.int .i32 (s.length : Nat))) ins fr s Alo Agl Ai cLo cGl nlo ngl m ci false k j hk (hE.into ha_) hjl hl3 hf hi1 hi2 hm2 hb_)) ?_
 intro _ _
 refine lA rfl ?_
 refine nQ ?_
 refine c_ret ?_
 exact body_ret (rs := [.tmp 2]) rfl (vs := [.nilIface]) ⟨rfl, trivial⟩ (out_end () trivial rfl .refl) _ (.inr rfl)
end Go.Proofs.YtbepljmeflndkaaGreatDoor
namespace Go.Proofs.YtbepljmeflndkaaGreatDoor
open Go.Eng Go.Fl
set_option maxRecDepth 100000
attribute [local irreducible] IntKind.wrap Int.tdiv Int.tmod Int.emod maxLen F G
set_option maxHeartbeats 8000000 in
theorem f127_any (w : World) (bH bM M : Nat) (q : QSt) (so : Sv) (v5 v6 v7 v13 : Value) (wd : List Value) (st : List Int) (hn : st.length ≤ 48) (hq : ∀ q ∈ st, Opd q) (hB0 : q.Bd M) (hM : M + 120 * 2147483648 < 2 ^ 53) (hok : slOk so q.out.length 7 (encG q.out)) (hlen : q.out.length ≤ 70000) (he : st.length % 2 = 0) (Mc : List Value) (lo gl ins : Value) (fr : List Value) (hm : MOk Mc lo gl ins fr st) (hw : Hp w (((bM, Mc, 95) :: (HB bH so q.out.length q.bx v5 v6 v7 q.x q.y q.fx q.fy q.io v13 ((q.bx).isSome) wd) :: slH so (encG q.out) 77).map (·.1)) ((bM, Mc, 95) :: (HB bH so q.out.length q.bx v5 v6 v7 q.x q.y q.fx q.fy q.io v13 ((q.bx).isSome) wd) :: slH so (encG q.out) 77) w) : Calls Tryz.prog 127 [.pointer (some ⟨bH, 0, none⟩), .pointer (some ⟨bM, 0, none⟩)].toArray w (Out w (((bM, Mc, 95) :: (HB bH so q.out.length q.bx v5 v6 v7 q.x q.y q.fx q.fy q.io v13 ((q.bx).isSome) wd) :: slH so (encG q.out) 77).map (·.1)) (fun z : Sv => slOk z (linesQ q st).out.length 7 (encG (linesQ q st).out)) (fun z => .tuple #[]) (fun z => (bM, (Mc.set 527 (.int .i32 0)), 95) :: (HB bH z (linesQ q st).out.length ((linesQ q st).bx) v5 v6 v7 ((linesQ q st).x) ((linesQ q st).y) ((linesQ q st).fx) ((linesQ q st).fy) ((linesQ q st).io) v13 (((linesQ q st).bx).isSome) wd) :: slH z (encG (linesQ q st).out) 77)) := by
 have hMt := hm.tp
 have hMv := hm.ops
 have hqx0 := nb hB0.x
 have hqy0 := nb hB0.y
 refine enter (n := 43) Tryz.func127 rfl rfl rfl hw ?_
 refine c_seq ?_
 refine cR ?_
 refine lA rfl ?_
 refine nQ ?_
 refine c_block ?_
 refine c_loop (ι := Nat × QSt × Sv) (φ := fun z => z.1 ≤ st.length ∧ z.1 % 2 = 0 ∧ linesQ z.2.1 (st.drop z.1) = linesQ q st ∧ z.2.1.Bd (M + z.1 * 2147483648) ∧ slOk z.2.2 z.2.1.out.length 7 (encG z.2.1.out) ∧ z.2.1.out.length ≤ q.out.length + z.1) (L' := fun z => [(0, .pointer (some ⟨bH, 0, none⟩)), (1, .pointer (some ⟨bM, 0, none⟩)), (4, .int .i32 (z.1 : Nat))]) (H' := fun z => (bM, Mc, 95) :: (HB bH z.2.2 z.2.1.out.length z.2.1.bx v5 v6 v7 z.2.1.x z.2.1.y z.2.1.fx z.2.1.fy z.2.1.io v13 ((z.2.1.bx).isSome) wd) :: slH z.2.2 (encG z.2.1.out) 77) (fun z => st.length - z.1) (0, q, so) ⟨Nat.zero_le _, rfl, rfl, by simpa using hB0, hok, Nat.le_refl _⟩ ⟨rfl, rfl, rfl, trivial⟩ (.cons .here (.cons .here .refl)) ?_
 intro ⟨k, q1, so1⟩ ⟨hk, hke, hE, hB, hok1, hol⟩
 simp only at hk hke hE hB hok1 hol ⊢
 have hqx := nb hB.x
 have hqy := nb hB.y
 refine c_seq ?_
 refine cR ?_
 refine lM rfl ?_
 refine lV (y_bin rfl rfl rfl (fitI (m := k + 2) (by omega) (by omega))) ?_
 refine lM rfl ?_
 refine lN rfl ?_
 refine lV (y_fieldAddr fo_95_4 rfl) ?_
 refine lV (y_fieldAddr fo_91_1 rfl) ?_
 refine lV (y_load1 ld_21 rfl m0 hMt) ?_
 refine lB rfl rfl rfl rfl ?_
 refine nQ ?_
 refine c_cond rfl (fun hc13 => ?_) (fun hc13 => ?_)
 ·have hk2 : k + 2 ≤ st.length := by simp only [decide_eq_true_eq] at hc13; omega
  obtain ⟨a0, h0⟩ := at_of (l := st) (i := k) (by omega)
  have n0 := at_opd hq h0
  obtain ⟨a1, h1⟩ := at_of (l := st) (i := k + 1) (by omega)
  have n1 := at_opd hq h1
  have hd : st.drop k = a0 :: a1 :: st.drop (k + 2) := by rw [drop_cons h0, drop_cons h1]
  refine kQ ?_
  refine c_seq ?_
  refine c_block ?_
  refine cR ?_
  refine lM rfl ?_
  refine lN rfl ?_
  refine lV (y_fieldAddr fo_97_5 rfl) ?_
  refine lV (y_loadN (vs := [_, _]) ld_50 rfl m1 rfl rfl) ?_
  refine l_gives rfl rfl (g_alloc ze_50) rfl ?_
  intro b5 hb5
  refine l_does rfl rfl (g_storeN (vs := [_, _]) (cs' := [_, _]) sz_50 rfl rfl rfl rfl rfl rfl rfl .here) ?_
  intro _ _
  refine nQ ?_
  refine c_seq ?_
  refine c_draw [(bM, Mc, 95)] mixed rfl ?_
  refine dM 0 rfl rfl ?_
  refine dM 1 rfl rfl ?_
  refine dN 2 rfl rfl ?_
  refine dV 3 rfl (y_fieldAddr fo_95_4 rfl) ?_
  refine dV 4 rfl (y_fieldAddr fo_91_0 rfl) ?_
  refine dV 5 rfl (y_indexArr (j := k) ar_89 rfl rfl (blt513 (by omega))) ?_
  refine dV 6 rfl (y_load1 ld_41 rfl m0 (hMv (k) _ h0)) ?_
  refine dM 7 rfl rfl ?_
  refine dM 8 rfl rfl ?_
  refine dV 9 rfl (y_bin rfl rfl rfl (fitI (m := k + 1) (by omega) (by omega))) ?_
  refine dN 10 rfl rfl ?_
  refine dV 11 rfl (y_fieldAddr fo_95_4 rfl) ?_
  refine dV 12 rfl (y_fieldAddr fo_91_0 rfl) ?_
  refine dV 13 rfl (y_indexArr (j := k + 1) ar_89 rfl rfl (blt513 (by omega))) ?_
  refine dV 14 rfl (y_load1 ld_41 rfl m0 (hMv (k + 1) _ h1)) ?_
  refine d_ready (i := 15) (rs := []) (by kernel_rfl) (.cons (.there .here) .nil) (all_one ?_)
  refine o_call rfl (no_guard rfl) ok_148 rfl rfl (out_one [] (b := (b5, [] ++ (.float .f64 (F q1.x) :: .float .f64 (F q1.y) :: []), 50)) (fun w9 ha_ hb_ => f148_any w9 b5 [] [] 50 q1.x q1.y a0 a1 (F a0) (F a1) (by omega) (by omega) (RF_F (by omega)) (RF_F (by omega)) (by omega) (by omega) hb_)) ?_
  intro _ _
  refine d_end (by kernel_rfl) (.cons (.there .here) .nil) ?_
  refine qG ?_
  refine lM rfl ?_
  refine lV (y_loadN (vs := [_, _]) ld_50 rfl m0 rfl rfl) ?_
  refine l_call ok_149 rfl rfl (out_tail (A := [_, _]) (H1 := (HB bH so1 q1.out.length q1.bx v5 v6 v7 q1.x q1.y q1.fx q1.fy q1.io v13 ((q1.bx).isSome) wd) :: slH so1 (encG q1.out) 77) (fun w9 ha_ hb_ => f149_any w9 bH (M + (k + 2) * 2147483648) q1 so1 v5 v6 v7 v13 wd (Nat.lt_of_le_of_lt (show (M + (k + 2) * 2147483648) ≤ M + 60 * 2147483648 by omega) (by omega)) (hB.mono (by omega)) (q1.x + a0) (q1.y + a1) (by omega) (by omega) hok1 (by omega) hb_)) ?_
  intro so_1 hok_1
  have hB_1 := lineA_bd (hB.mono (N := (M + (k + 2) * 2147483648)) (by omega)) (show ((q1.x + a0)).natAbs ≤ _ by omega) (show ((q1.y + a1)).natAbs ≤ _ by omega)
  have hl_1 : (lineA q1 (q1.x + a0) (q1.y + a1)).out.length = q1.out.length + 1 := lineA_len
  refine l_nil ?_
  refine q_block ?_
  refine qG ?_
  refine lM rfl ?_
  refine lV (y_bin rfl rfl rfl (fitI (m := k + 2) (by omega) (by omega))) ?_
  refine lA rfl ?_
  refine l_nil ?_
  exact q_rnd (k + 2, (lineA q1 (q1.x + a0) (q1.y + a1)), so_1) ⟨by simp only; omega, by simp only; omega, by rw [← hE, hd]; rfl, hB_1, hok_1, by simp only; omega⟩ (by simp only; omega) ⟨rfl, rfl, rfl, trivial⟩ (.cons (.there .here) (.cons (.there .here) (.skip .refl)))
 ·have hk3 : ¬ k + 2 ≤ st.length := by simp only [decide_eq_false_iff_not] at hc13; omega
  have hd : st.drop k = [] := List.drop_of_length_le (by omega)
  rw [hd] at hE
  have hE2 : q1 = linesQ q st := hE
  subst hE2
  refine c_exit ?_
  refine q_then_exit ?_
  refine q_rnd_exit ?_
  refine q_block_exit ?_
  refine qG ?_
  refine lM rfl ?_
  refine lN rfl ?_
  refine lV (y_fieldAddr fo_95_4 rfl) ?_
  refine l_call ok_141 rfl rfl (out_one [] (b := (bM, Mc, 95)) (fun w9 ha_ hb_ => f141_any w9 bM Mc lo gl ins fr st hm hb_)) ?_
  intro _ _
  refine l_nil ?_
  exact body_ret (rs := []) rfl (vs := []) trivial (out_end so1 hok1 rfl .refl) _ (.inl rfl)
set_option maxHeartbeats 2000000 in
theorem f126_f (w : World) (bM bH vn hn k m cl : Nat) (p : Addr) (hvn : vn ≤ 1000000) (hhn : hn ≤ 1000000) (hk : k < m) (hcl : m ≤ cl) (hk3 : k ≤ 1000000) (Mc : List Value) (lo gl : Value) (fr : List Value) (st : List Int) (v7 : Value) (hkd : k = (hn + (vn + st.length / 2) + 7) / 8) (hm : MOk Mc lo gl (.slice (some p) m cl) fr st) (q : QSt) (so : Sv) (wd : List Value) (hw : Hp w (([(bM, Mc, 95), (HB bH so q.out.length q.bx (.int .i32 (vn : Nat)) (.int .i32 (hn : Nat)) v7 q.x q.y q.fx q.fy q.io (.bool false) ((q.bx).isSome) wd)]).map (·.1)) [(bM, Mc, 95), (HB bH so q.out.length q.bx (.int .i32 (vn : Nat)) (.int .i32 (hn : Nat)) v7 q.x q.y q.fx q.fy q.io (.bool false) ((q.bx).isSome) wd)] w) : Calls Tryz.prog 126 [.pointer (some ⟨bH, 0, none⟩), .pointer (some ⟨bM, 0, none⟩)].toArray w (Out w (([(bM, Mc, 95), (HB bH so q.out.length q.bx (.int .i32 (vn : Nat)) (.int .i32 (hn : Nat)) v7 q.x q.y q.fx q.fy q.io (.bool false) ((q.bx).isSome) wd)]).map (·.1)) (fun z : Unit => True) (fun z => .tuple #[]) (fun z => [(bM, ((Mc.set 2 (.slice (some (if cl = k then p else p.add (k * 1))) (m - k) (cl - k))).set 527 (.int .i32 0)), 95), (HB bH so q.out.length q.bx (.int .i32 ((vn + st.length / 2) : Nat)) (.int .i32 (hn : Nat)) (.int .i32 (k : Nat)) q.x q.y q.fx q.fy q.io (.bool true) ((q.bx).isSome) wd)])) := by
 refine enter (n := 13) Tryz.func126 rfl rfl rfl hw ?_
 refine cR ?_
 refine lM rfl ?_
 refine lM rfl ?_
 refine l_call ok_146 rfl rfl (out_all (H1 := [(bM, Mc, 95), (HB bH so q.out.length q.bx (.int .i32 (vn : Nat)) (.int .i32 (hn : Nat)) v7 q.x q.y q.fx q.fy q.io (.bool false) ((q.bx).isSome) wd)]) (fun w9 ha_ hb_ => f146_f w9 bM bH vn hn hvn hhn Mc lo gl (.slice (some p) m cl) fr st hm q so v7 wd hb_)) ?_
 intro _ _
 rw [← hkd]
 refine nG ?_
 refine lM rfl ?_
 refine lM rfl ?_
 refine lN rfl ?_
 refine lV (y_fieldAddr fo_97_4 rfl) ?_
 refine lV (y_load1 ld_21 rfl m1 rfl) ?_
 refine l_call ok_147 rfl rfl (out_head (H1 := [(bM, Mc, 95)]) (R := [(HB bH so q.out.length q.bx (.int .i32 ((vn + st.length / 2) : Nat)) (.int .i32 (hn : Nat)) (.int .i32 (k : Nat)) q.x q.y q.fx q.fy q.io (.bool true) ((q.bx).isSome) wd)]) (fun w9 ha_ hb_ => f147_any w9 bM k m cl p hk hcl hk3 Mc lo gl fr st hm hb_)) ?_
 intro _ _
 refine l_nil ?_
 exact body_ret (rs := []) rfl (vs := []) trivial (out_end () trivial rfl .refl) _ (.inl rfl)
set_option maxHeartbeats 2000000 in
theorem f126_t (w : World) (bM bH vn hn k m cl : Nat) (p : Addr) (hvn : vn ≤ 1000000) (hhn : hn ≤ 1000000) (hk : k < m) (hcl : m ≤ cl) (hk3 : k ≤ 1000000) (Mc : List Value) (lo gl : Value) (fr : List Value) (st : List Int) (hm : MOk Mc lo gl (.slice (some p) m cl) fr st) (q : QSt) (so : Sv) (wd : List Value) (hw : Hp w (([(bM, Mc, 95), (HB bH so q.out.length q.bx (.int .i32 (vn : Nat)) (.int .i32 (hn : Nat)) (.int .i32 (k : Nat)) q.x q.y q.fx q.fy q.io (.bool true) ((q.bx).isSome) wd)]).map (·.1)) [(bM, Mc, 95), (HB bH so q.out.length q.bx (.int .i32 (vn : Nat)) (.int .i32 (hn : Nat)) (.int .i32 (k : Nat)) q.x q.y q.fx q.fy q.io (.bool true) ((q.bx).isSome) wd)] w) : Calls Tryz.prog 126 [.pointer (some ⟨bH, 0, none⟩), .pointer (some ⟨bM, 0, none⟩)].toArray w (Out w (([(bM, Mc, 95), (HB bH so q.out.length q.bx (.int .i32 (vn : Nat)) (.int .i32 (hn : Nat)) (.int .i32 (k : Nat)) q.x q.y q.fx q.fy q.io (.bool true) ((q.bx).isSome) wd)]).map (·.1)) (fun z : Unit => True) (fun z => .tuple #[]) (fun z => [(bM, ((Mc.set 2 (.slice (some (if cl = k then p else p.add (k * 1))) (m - k) (cl - k))).set 527 (.int .i32 0)), 95), (HB bH so q.out.length q.bx (.int .i32 (vn : Nat)) (.int .i32 (hn : Nat)) (.int .i32 (k : Nat)) q.x q.y q.fx q.fy q.io (.bool true) ((q.bx).isSome) wd)])) := by
 refine enter (n := 13) Tryz.func126 rfl rfl rfl hw ?_
 refine cR ?_
 refine lM rfl ?_
 refine lM rfl ?_
 refine l_call ok_146 rfl rfl (out_all (H1 := [(bM, Mc, 95), (HB bH so q.out.length q.bx (.int .i32 (vn : Nat)) (.int .i32 (hn : Nat)) (.int .i32 (k : Nat)) q.x q.y q.fx q.fy q.io (.bool true) ((q.bx).isSome) wd)]) (fun w9 ha_ hb_ => f146_t w9 bM bH vn hn hvn hhn Mc lo gl (.slice (some p) m cl) fr st hm q so (.int .i32 (k : Nat)) wd hb_)) ?_
 intro _ _
 refine nG ?_
 refine lM rfl ?_
 refine lM rfl ?_
 refine lN rfl ?_
 refine lV (y_fieldAddr fo_97_4 rfl) ?_
 refine lV (y_load1 ld_21 rfl m1 rfl) ?_
 refine l_call ok_147 rfl rfl (out_head (H1 := [(bM, Mc, 95)]) (R := [(HB bH so q.out.length q.bx (.int .i32 (vn : Nat)) (.int .i32 (hn : Nat)) (.int .i32 (k : Nat)) q.x q.y q.fx q.fy q.io (.bool true) ((q.bx).isSome) wd)]) (fun w9 ha_ hb_ => f147_any w9 bM k m cl p hk hcl hk3 Mc lo gl fr st hm hb_)) ?_
 intro _ _
 refine l_nil ?_
 exact body_ret (rs := []) rfl (vs := []) trivial (out_end () trivial rfl .refl) _ (.inl rfl)
end Go.Proofs.YtbepljmeflndkaaGreatDoor
namespace Go.Proofs.YtbepljmeflndkaaGreatDoor
open Go.Eng Go.Fl
theorem numB_28 {r : List Nat} {z : Int × Nat} (h : numB (28 :: r) = some z) : ∃ a b r2, r = a :: b :: r2 ∧ z = (IntKind.i16.wrap ((a * 256 + b : Nat) : Int) * 65536, 3) := by
  rw [numB_cons, if_pos rfl] at h
  match r, h with
  | a :: b :: r2, h => injection h with h; exact ⟨a, b, r2, rfl, h.symm⟩
  | [_], h => cases h
  | [], h => cases h
theorem numB_255 {r : List Nat} {z : Int × Nat} (h : numB (255 :: r) = some z) : ∃ a b c d r2, r = a :: b :: c :: d :: r2 ∧ z = (IntKind.i32.wrap ((((a * 256 + b) * 256 + c) * 256 + d : Nat) : Int), 5) := by
  rw [numB_cons, if_neg (by decide), if_pos rfl] at h
  match r, h with
  | a :: b :: c :: d :: r2, h => injection h with h; exact ⟨a, b, c, d, r2, rfl, h.symm⟩
  | [_, _, _], h => cases h
  | [_, _], h => cases h
  | [_], h => cases h
  | [], h => cases h
theorem numB_251 {v : Nat} {r : List Nat} {z : Int × Nat} (h1 : 251 ≤ v) (h2 : v < 255) (h : numB (v :: r) = some z) : ∃ a r2, r = a :: r2 ∧ z = ((-((v : Int) - 251) * 256 - a - 108) * 65536, 2) := by
  rw [numB_cons, if_neg (by omega), if_neg (by omega), if_pos h1] at h
  match r, h with
  | a :: r2, h => injection h with h; exact ⟨a, r2, rfl, h.symm⟩
  | [], h => cases h
theorem numB_247 {v : Nat} {r : List Nat} {z : Int × Nat} (h1 : 247 ≤ v) (h2 : v < 251) (h : numB (v :: r) = some z) : ∃ a r2, r = a :: r2 ∧ z = ((((v : Int) - 247) * 256 + a + 108) * 65536, 2) := by
  rw [numB_cons, if_neg (by omega), if_neg (by omega), if_neg (by omega), if_pos h1] at h
  match r, h with
  | a :: r2, h => injection h with h; exact ⟨a, r2, rfl, h.symm⟩
  | [], h => cases h
theorem numB_32 {v : Nat} {r : List Nat} {z : Int × Nat} (h1 : 32 ≤ v) (h2 : v < 247) (h : numB (v :: r) = some z) : z = (((v : Int) - 139) * 65536, 1) := by
  rw [numB_cons, if_neg (by omega), if_neg (by omega), if_neg (by omega), if_neg (by omega)] at h
  injection h with h; exact h.symm
theorem F_139 : F 9109504 = 4639094644284588032 := by kernel_rfl
section
variable {P : Program} {n : Nat} {D : List Deferred} {w0 : World} {S : List Nat} {L : Slots} {H : Heap} {d : Option Tmp} {ty : TypeId} {pos : String} {af : Array Edge} {gd : Option (Nat × Bool)}
theorem y_sub139 {t u : TypeId} {x y : Operand} {i : Int} (hx : ev L x = some (.float .f64 (F i))) (hy : ev L y = some (.float .f64 4639094644284588032)) (hi : i.natAbs < 2 ^ 53) (hr : (i - 9109504).natAbs < 2 ^ 53) :
    Go.Eng.Yields P n D w0 S ⟨d, .binOp .sub t x y u, ty, pos, af, gd⟩ L H (.float .f64 (F (i - 9109504))) := by
  rw [← F_139] at hy
  exact y_farith hx hy (show floatBits .sub .f64 _ _ = _ from sub_F hi (by decide) hr)
theorem y_loadZ {t : TypeId} {x : Operand} {p : Addr} (hs : ldSize P t = some (some 0)) (hx : ev L x = some (.pointer (some p))) : Go.Eng.Yields P n D w0 S ⟨d, .load t x, ty, pos, af, gd⟩ L H (.agg #[]) := by
  intro a w ha hw
  have := run_loadAtN hs (a := p) (cs := []) (w := w) rfl (fun j v hj => by simp at hj)
  simp [execOp, ha.ev_eq hx, this]
end
theorem out_keepH {P : Program} {w0 : World} {S : List Nat} {H : Heap} {f : Nat} {args : Array Value} {ι : Type} {φ : ι → Prop} {vv : ι → Value}
    (hc : ∀ w, Hp w0 S H w → Calls P f args w (Out w [] φ vv (fun _ => []))) : ∀ w, Hp w0 S H w → Calls P f args w (Out w0 S φ vv (fun _ => H)) :=
  fun w hw => (out_frame (H1 := []) (Hr := H) hw (.refl _) (hc w hw)).mono fun _ _ h => h
theorem or_add2 {n x a s : Nat} (hb : x < 2 ^ s) (hn : a * 2 ^ s + x < 2 ^ n) : (BitVec.ofInt n ((x : Nat) : Int) ||| BitVec.ofInt n ((a * 2 ^ s : Nat) : Int)).toNat = a * 2 ^ s + x := by
  rw [BitVec.or_comm]
  exact or_add hb hn
theorem fitU16 {z : Int} {m : Nat} (h : z = m) (h2 : m < 65536) : Value.int .u16 (IntKind.u16.wrap z) = .int .u16 (m : Int) := by
  subst h
  have : IntKind.u16.wrap (m : Int) = m := by simp only [IntKind.wrap, IntKind.bits, IntKind.signed]; simp; omega
  rw [this]
theorem orU16 {x y m a s : Nat} (hy : y = a * 2 ^ s) (hx : x < 2 ^ s) (hm : y + x = m) (hn : m < 65536) : Value.int .u16 (IntKind.u16.wrap ((BitVec.ofInt IntKind.u16.bits (x : Int) ||| BitVec.ofInt IntKind.u16.bits (y : Int)).toNat : Nat)) = .int .u16 (m : Int) := by
  subst hy hm
  have h := or_add2 (n := 16) (a := a) hx (by omega)
  rw [show IntKind.u16.bits = 16 from rfl, h]
  exact fitU16 rfl (by omega)
theorem orU2 {x y m a s : Nat} (hy : y = a * 2 ^ s) (hx : x < 2 ^ s) (hm : y + x = m) (hn : m < 4294967296) : Value.int .u32 (IntKind.u32.wrap ((BitVec.ofInt IntKind.u32.bits (x : Int) ||| BitVec.ofInt IntKind.u32.bits (y : Int)).toNat : Nat)) = .int .u32 (m : Int) := by
  subst hy hm
  have h := or_add2 (n := 32) (a := a) hx (by omega)
  rw [show IntKind.u32.bits = 32 from rfl, h]
  exact fitU rfl (by omega)
theorem fitU8 {z : Int} {m : Nat} (h : z = m) (h2 : m < 256) : Value.int .u8 (IntKind.u8.wrap z) = .int .u8 (m : Int) := by
  subst h
  have : IntKind.u8.wrap (m : Int) = m := by simp only [IntKind.wrap, IntKind.bits, IntKind.signed]; simp; omega
  rw [this]
end Go.Proofs.YtbepljmeflndkaaGreatDoor
namespace Go.Proofs.YtbepljmeflndkaaGreatDoor
open Go.Eng Go.Fl
set_option maxRecDepth 100000
attribute [local irreducible] IntKind.wrap Int.tdiv Int.tmod Int.emod maxLen F G
theorem f35_any (w : World) (a b cl : Nat) (r : List Nat) (A : Option Addr) (hb : ∀ u ∈ a :: b :: r, u < 256) (hR : RdB w [] A (a :: b :: r)) : Calls Tryz.prog 35 [.agg #[], .slice A (a :: b :: r).length cl].toArray w (Out w [] (fun z : Unit => True) (fun z => .int .u16 ((a * 256 + b : Nat) : Int)) (fun z => [])) := by
 obtain ⟨p, rfl, hpb, hpS, hpc⟩ := hR.ptr
 have ha := hb a (by simp)
 have hb1 := hb b (by simp)
 refine enter (n := 18) Tryz.func35 rfl rfl rfl (Hp.refl w) ?_
 refine cR ?_
 refine l_gives rfl rfl (g_box (vs := []) rfl rfl) rfl ?_
 intro b2 hb2
 refine lA rfl ?_
 refine nR ?_
 refine lM rfl ?_
 refine lV (y_indexAddr (j := 1) es_22 rfl rfl (by simp)) ?_
 refine lV (y_oldLoad1 ld_5 rfl (by rw [block_add]; exact hpb) (by rw [block_add]; exact hpS) (hpc 1 b rfl)) ?_
 refine nQ ?_
 refine c_seq ?_
 refine c_drawH mixed rfl ?_
 refine dM 0 rfl rfl ?_
 refine dV 1 rfl (y_indexAddr (j := 1) es_22 rfl rfl (by simp)) ?_
 refine dV 2 rfl (y_oldLoad1 ld_5 rfl (by rw [block_add]; exact hpb) (by rw [block_add]; exact hpS) (hpc 1 b rfl)) ?_
 refine dV 3 rfl (y_conv cv_5_71 rfl (fitU16 (m := b) rfl (by omega))) ?_
 refine dM 4 rfl rfl ?_
 refine dV 5 rfl (y_indexAddr (j := 0) es_22 rfl rfl (by simp)) ?_
 refine dV 6 rfl (y_oldLoad1 ld_5 rfl (by rw [block_add]; exact hpb) (by rw [block_add]; exact hpS) (hpc 0 a rfl)) ?_
 refine dV 7 rfl (y_conv cv_5_71 rfl (fitU16 (m := a) rfl (by omega))) ?_
 refine dV 8 rfl (y_shl (s := 8) rfl rfl (by decide) (fitU16 (m := a * 2 ^ 8) (by omega) (by omega))) ?_
 refine dV 9 rfl (y_or rfl rfl (orU16 (a := a) (s := 8) rfl (by omega) rfl (by omega))) ?_
 refine dV 10 rfl (y_assign rfl) ?_
 refine d_end (by kernel_rfl) (.cons .here .nil) ?_
 refine q_then ?_
 refine c_ret ?_
 exact body_ret (rs := [.tmp 4]) rfl (vs := [.int .u16 ((a * 256 + b : Nat) : Int)]) ⟨rfl, trivial⟩ (out_end () trivial rfl .nil) _ (.inr rfl)
theorem f36_any (w : World) (a b c d cl : Nat) (r : List Nat) (A : Option Addr) (hb : ∀ u ∈ a :: b :: c :: d :: r, u < 256) (hR : RdB w [] A (a :: b :: c :: d :: r)) : Calls Tryz.prog 36 [.agg #[], .slice A (a :: b :: c :: d :: r).length cl].toArray w (Out w [] (fun z : Unit => True) (fun z => .int .u32 ((((a * 256 + b) * 256 + c) * 256 + d : Nat) : Int)) (fun z => [])) := by
 obtain ⟨p, rfl, hpb, hpS, hpc⟩ := hR.ptr
 have ha := hb a (by simp)
 have hb1 := hb b (by simp)
 have hc1 := hb c (by simp)
 have hd1 := hb d (by simp)
 refine enter (n := 30) Tryz.func36 rfl rfl rfl (Hp.refl w) ?_
 refine cR ?_
 refine l_gives rfl rfl (g_box (vs := []) rfl rfl) rfl ?_
 intro b2 hb2
 refine lA rfl ?_
 refine nR ?_
 refine lM rfl ?_
 refine lV (y_indexAddr (j := 3) es_22 rfl rfl (by simp)) ?_
 refine lV (y_oldLoad1 ld_5 rfl (by rw [block_add]; exact hpb) (by rw [block_add]; exact hpS) (hpc 3 d rfl)) ?_
 refine nQ ?_
 refine c_seq ?_
 refine c_drawH mixed rfl ?_
 refine dM 0 rfl rfl ?_
 refine dV 1 rfl (y_indexAddr (j := 3) es_22 rfl rfl (by simp)) ?_
 refine dV 2 rfl (y_oldLoad1 ld_5 rfl (by rw [block_add]; exact hpb) (by rw [block_add]; exact hpS) (hpc 3 d rfl)) ?_
 refine dV 3 rfl (y_conv cv_5_80 rfl (fitU (m := d) rfl (by omega))) ?_
 refine dM 4 rfl rfl ?_
 refine dV 5 rfl (y_indexAddr (j := 2) es_22 rfl rfl (by simp)) ?_
 refine dV 6 rfl (y_oldLoad1 ld_5 rfl (by rw [block_add]; exact hpb) (by rw [block_add]; exact hpS) (hpc 2 c rfl)) ?_
 refine dV 7 rfl (y_conv cv_5_80 rfl (fitU (m := c) rfl (by omega))) ?_
 refine dV 8 rfl (y_shl (s := 8) rfl rfl (by decide) (fitU (m := c * 2 ^ 8) (by omega) (by omega))) ?_
 refine dV 9 rfl (y_or rfl rfl (orU2 (m := c * 256 + d) (a := c) (s := 8) rfl (by omega) (by omega) (by omega))) ?_
 refine dM 10 rfl rfl ?_
 refine dV 11 rfl (y_indexAddr (j := 1) es_22 rfl rfl (by simp)) ?_
 refine dV 12 rfl (y_oldLoad1 ld_5 rfl (by rw [block_add]; exact hpb) (by rw [block_add]; exact hpS) (hpc 1 b rfl)) ?_
 refine dV 13 rfl (y_conv cv_5_80 rfl (fitU (m := b) rfl (by omega))) ?_
 refine dV 14 rfl (y_shl (s := 16) rfl rfl (by decide) (fitU (m := b * 2 ^ 16) (by omega) (by omega))) ?_
 refine dV 15 rfl (y_or rfl rfl (orU2 (m := (b * 256 + c) * 256 + d) (a := b) (s := 16) rfl (by omega) (by omega) (by omega))) ?_
 refine dM 16 rfl rfl ?_
 refine dV 17 rfl (y_indexAddr (j := 0) es_22 rfl rfl (by simp)) ?_
 refine dV 18 rfl (y_oldLoad1 ld_5 rfl (by rw [block_add]; exact hpb) (by rw [block_add]; exact hpS) (hpc 0 a rfl)) ?_
 refine dV 19 rfl (y_conv cv_5_80 rfl (fitU (m := a) rfl (by omega))) ?_
 refine dV 20 rfl (y_shl (s := 24) rfl rfl (by decide) (fitU (m := a * 2 ^ 24) (by omega) (by omega))) ?_
 refine dV 21 rfl (y_or rfl rfl (orU2 (m := ((a * 256 + b) * 256 + c) * 256 + d) (a := a) (s := 24) rfl (by omega) (by omega) (by omega))) ?_
 refine dV 22 rfl (y_assign rfl) ?_
 refine d_end (by kernel_rfl) (.cons .here .nil) ?_
 refine q_then ?_
 refine c_ret ?_
 exact body_ret (rs := [.tmp 4]) rfl (vs := [.int .u32 ((((a * 256 + b) * 256 + c) * 256 + d : Nat) : Int)]) ⟨rfl, trivial⟩ (out_end () trivial rfl .nil) _ (.inr rfl)
theorem boolT_eq {a b : Int} (h : a = b) : Value.bool (a == b) = .bool true := by rw [beq_iff_eq.2 h]
set_option maxHeartbeats 8000000 in
theorem f33_num (w : World) (bM v cl : Nat) (r : List Nat) (p : Addr) (hcl : (v :: r).length ≤ cl) (hb : ∀ u ∈ v :: r, u < 256) (hR : RdB w [bM] (some p) (v :: r)) (Mc : List Value) (lo gl : Value) (fr : List Value) (st : List Int) (hm : MOk Mc lo gl (.slice (some p) (v :: r).length cl) fr st) (zz : Int × Nat) (hnum : isNum v = true) (hn : numB (v :: r) = some zz) (hs5 : st.length < 513) (hw : Hp w [bM] [(bM, Mc, 95)] w) : Calls Tryz.prog 33 [.pointer (some ⟨bM, 0, none⟩)].toArray w (Out w [bM] (fun z : Unit => True) (fun z => .tuple #[.bool true, .nilIface]) (fun z => [(bM, (((Mc.set 2 (.slice (some (if cl = zz.2 then p else p.add (zz.2 * 1))) ((v :: r).length - zz.2) (cl - zz.2))).set (14 + st.length * 1) (.float .f64 (F zz.1))).set 527 (.int .i32 ((st.length + 1 : Nat) : Int))), 95)])) := by
 have hml := hm.len
 have hms := hm.stl
 obtain ⟨p2, hp2, hpb, hpS, hpc⟩ := hR.ptr
 injection hp2 with hp2
 subst hp2
 have hv := hb v (by simp)
 refine enter (n := 328) Tryz.func33 rfl rfl rfl hw ?_
 refine cR ?_
 refine lA rfl ?_
 refine lA rfl ?_
 refine nR ?_
 refine lA rfl ?_
 refine nQ ?_
 refine c_seq ?_
 refine cR ?_
 refine lM rfl ?_
 refine lN rfl ?_
 refine lV (y_fieldAddr fo_95_2 rfl) ?_
 refine lV (y_load1 ld_22 rfl m0 hm.cod) ?_
 refine lV (y_indexAddr (j := 0) es_22 rfl rfl (by simp)) ?_
 refine lV (y_oldLoad1 ld_5 rfl (by rw [block_add]; exact hpb) (by rw [block_add]; exact hpS) (hpc 0 v rfl)) ?_
 refine lA rfl ?_
 refine nQ ?_
 refine c_block ?_
 refine cR ?_
 refine lM rfl ?_
 refine lB rfl rfl rfl rfl ?_
 refine lA rfl ?_
 refine nQ ?_
 refine c_cut (ι := Int × Nat) (φ := fun z => z = zz) (L' := fun z => [(0, .pointer (some ⟨bM, 0, none⟩)), (2, .bool true), (4, .float .f64 (F z.1))]) (H' := fun z => [(bM, (Mc.set 2 (.slice (some (if cl = z.2 then p else p.add (z.2 * 1))) ((v :: r).length - z.2) (cl - z.2))), 95)]) ?_ ?_
 ·refine c_cond rfl (fun hc21 => ?_) (fun hc21 => ?_)
  ·have hv28 : v = 28 := by simp only [beq_iff_eq] at hc21; omega
   subst hv28
   obtain ⟨a, b, r2, rfl, hz⟩ := numB_28 hn
   have ha := hb a (by simp)
   have hb2 := hb b (by simp)
   have hb1 : ∀ u ∈ a :: b :: r2, u < 256 := fun u hu => hb u (List.mem_cons_of_mem _ hu)
   refine c_seq ?_
   refine cR ?_
   refine lM rfl ?_
   refine lN rfl ?_
   refine lV (y_fieldAddr fo_95_2 rfl) ?_
   refine lV (y_load1 ld_22 rfl m0 hm.cod) ?_
   refine lV (y_len sl_22 rfl) ?_
   refine lV (y_bin rfl rfl rfl (boolF (by simp only [List.length_cons]; omega))) ?_
   refine nQ ?_
   refine c_false rfl rfl ?_
   refine kQ ?_
   refine c_seq ?_
   refine c_drawH mixed rfl ?_
   refine dV 0 rfl (y_loadZ ld_121 rfl) ?_
   refine dM 1 rfl rfl ?_
   refine dN 2 rfl rfl ?_
   refine dV 3 rfl (y_fieldAddr fo_95_2 rfl) ?_
   refine dV 4 rfl (y_load1 ld_22 rfl m0 hm.cod) ?_
   refine dV 5 rfl (y_sliceLoM (i := 1) (m' := (a :: b :: r2).length) es_22 rfl rfl (by simp) hcl (by simp)) ?_
   refine d_ready (i := 6) (rs := []) (by kernel_rfl) (.cons .here .nil) (all_one ?_)
   refine o_call rfl (no_guard rfl) ok_35 rfl rfl (out_keepH (fun w9 hw9 => f35_any w9 a b (cl - 1) r2 _ hb1 ((hR.drop (k := 1) (by simp) hcl).empty hw9))) ?_
   intro _ _
   refine dV 7 rfl (y_conv cv_71_78 rfl rfl) ?_
   refine dV 8 rfl (y_convIF cf_78_41 rfl (by have := wrap_i16 ((a * 256 + b : Nat) : Int); omega)) ?_
   refine dV 9 rfl (y_assign rfl) ?_
   refine dV 10 rfl (y_assign rfl) ?_
   refine d_end (by kernel_rfl) (.cons .here .nil) ?_
   refine qG ?_
   refine lM rfl ?_
   refine lM rfl ?_
   refine lN rfl ?_
   refine lV (y_fieldAddr fo_95_2 rfl) ?_
   refine lV (y_load1 ld_22 rfl m0 hm.cod) ?_
   refine lV (y_sliceLo (i := 3) es_22 rfl rfl (by simp) hcl) ?_
   refine lN rfl ?_
   refine lV (y_fieldAddr fo_95_2 rfl) ?_
   refine l_does rfl rfl (g_store1 (cs' := (Mc.set 2 (.slice (some (if cl = 3 then p else p.add (3 * 1))) ((28 :: a :: b :: r2).length - 3) (cl - 3)))) sz_22 rfl rfl (by first | rfl | assumption) (blt_of (by first | omega | (simp only [List.length_set]; omega))) (by first | rfl | assumption) rfl .here) ?_
   intro _ _
   refine l_nil ?_
   exact q_cut (IntKind.i16.wrap ((a * 256 + b : Nat) : Int) * 65536, 3) (by first | (rw [hz]; done) | (rw [hz]; exact Prod.ext (by simp only <;> omega) rfl)) ⟨rfl, rfl, rfl, trivial⟩ (.cons .here .nil)
  ·have hv28 : v ≠ 28 := by simp only [beq_eq_false_iff_ne] at hc21; omega
   have hv32 : 32 ≤ v := by unfold isNum at hnum; simp only [Bool.or_eq_true, decide_eq_true_eq, beq_iff_eq] at hnum; omega
   refine cR ?_
   refine lM rfl ?_
   refine lV (y_bin rfl rfl rfl (boolF_eq (by omega))) ?_
   refine lM rfl ?_
   refine l_not rfl rfl rfl rfl ?_
   refine l_not rfl rfl rfl rfl ?_
   refine l_not rfl rfl rfl rfl ?_
   refine l_not rfl rfl rfl rfl ?_
   refine l_not rfl rfl rfl rfl ?_
   refine lV (y_pick rfl rfl rfl) ?_
   refine lA rfl ?_
   refine nQ ?_
   refine c_false rfl rfl ?_
   refine cR ?_
   refine lM rfl ?_
   refine lV (y_bin rfl rfl rfl (boolF_eq (by omega))) ?_
   refine lM rfl ?_
   refine l_not rfl rfl rfl rfl ?_
   refine l_not rfl rfl rfl rfl ?_
   refine l_not rfl rfl rfl rfl ?_
   refine l_not rfl rfl rfl rfl ?_
   refine l_not rfl rfl rfl rfl ?_
   refine lV (y_pick rfl rfl rfl) ?_
   refine lM rfl ?_
   refine l_not rfl rfl rfl rfl ?_
   refine l_not rfl rfl rfl rfl ?_
   refine l_not rfl rfl rfl rfl ?_
   refine l_not rfl rfl rfl rfl ?_
   refine l_not rfl rfl rfl rfl ?_
   refine lV (y_pick rfl rfl rfl) ?_
   refine lA rfl ?_
   refine nQ ?_
   refine c_false rfl rfl ?_
   refine cR ?_
   refine lM rfl ?_
   refine lV (y_bin rfl rfl rfl (boolF (by omega))) ?_
   refine lA rfl ?_
   refine nQ ?_
   refine c_false rfl rfl ?_
   refine cR ?_
   refine lM rfl ?_
   refine lB rfl rfl rfl rfl ?_
   refine lA rfl ?_
   refine nQ ?_
   refine c_cond rfl (fun hc168 => ?_) (fun hc168 => ?_)
   ·have hv247 : v < 247 := by simp only [decide_eq_true_eq] at hc168; omega
    have hz := numB_32 hv32 hv247 hn
    refine cR ?_
    refine lM rfl ?_
    refine lM rfl ?_
    refine lN rfl ?_
    refine lV (y_fieldAddr fo_95_2 rfl) ?_
    refine lV (y_load1 ld_22 rfl m0 hm.cod) ?_
    refine lV (y_sliceLo (i := 1) es_22 rfl rfl (by simp) hcl) ?_
    refine lN rfl ?_
    refine lV (y_fieldAddr fo_95_2 rfl) ?_
    refine l_does rfl rfl (g_store1 (cs' := (Mc.set 2 (.slice (some (if cl = 1 then p else p.add (1 * 1))) ((v :: r).length - 1) (cl - 1)))) sz_22 rfl rfl (by first | rfl | assumption) (blt_of (by first | omega | (simp only [List.length_set]; omega))) (by first | rfl | assumption) rfl .here) ?_
    intro _ _
    refine nG ?_
    refine lM rfl ?_
    refine lV (y_convIF cf_5_41 rfl (by omega)) ?_
    refine lV (y_sub139 rfl rfl (by omega) (by omega)) ?_
    refine lA rfl ?_
    refine lA rfl ?_
    refine l_nil ?_
    exact q_cut ((v : Int) * 65536 - 9109504, 1) (by first | (rw [hz]; done) | (rw [hz]; exact Prod.ext (by simp only <;> omega) rfl)) ⟨rfl, rfl, rfl, trivial⟩ (.cons .here .nil)
   ·have hv247 : 247 ≤ v := by simp only [decide_eq_false_iff_not] at hc168; omega
    refine cR ?_
    refine lM rfl ?_
    refine lB rfl rfl rfl rfl ?_
    refine lA rfl ?_
    refine nQ ?_
    refine c_cond rfl (fun hc182 => ?_) (fun hc182 => ?_)
    ·have hv251 : v < 251 := by simp only [decide_eq_true_eq] at hc182; omega
     obtain ⟨a, r2, rfl, hz⟩ := numB_247 hv247 hv251 hn
     have ha := hb a (by simp)
     refine c_seq ?_
     refine cR ?_
     refine lM rfl ?_
     refine lN rfl ?_
     refine lV (y_fieldAddr fo_95_2 rfl) ?_
     refine lV (y_load1 ld_22 rfl m0 hm.cod) ?_
     refine lV (y_len sl_22 rfl) ?_
     refine lV (y_bin rfl rfl rfl (boolF (by simp only [List.length_cons]; omega))) ?_
     refine nQ ?_
     refine c_false rfl rfl ?_
     refine kR ?_
     refine lM rfl ?_
     refine lN rfl ?_
     refine lV (y_fieldAddr fo_95_2 rfl) ?_
     refine lV (y_load1 ld_22 rfl m0 hm.cod) ?_
     refine lV (y_indexAddr (j := 1) es_22 rfl rfl (by simp)) ?_
     refine lV (y_oldLoad1 ld_5 rfl (by rw [block_add]; exact hpb) (by rw [block_add]; exact hpS) (hpc 1 a rfl)) ?_
     refine lA rfl ?_
     refine nR ?_
     refine lM rfl ?_
     refine lM rfl ?_
     refine lN rfl ?_
     refine lV (y_fieldAddr fo_95_2 rfl) ?_
     refine lV (y_load1 ld_22 rfl m0 hm.cod) ?_
     refine lV (y_sliceLo (i := 2) es_22 rfl rfl (by simp) hcl) ?_
     refine lN rfl ?_
     refine lV (y_fieldAddr fo_95_2 rfl) ?_
     refine l_does rfl rfl (g_store1 (cs' := (Mc.set 2 (.slice (some (if cl = 2 then p else p.add (2 * 1))) ((v :: a :: r2).length - 2) (cl - 2)))) sz_22 rfl rfl (by first | rfl | assumption) (blt_of (by first | omega | (simp only [List.length_set]; omega))) (by first | rfl | assumption) rfl .here) ?_
     intro _ _
     refine nG ?_
     refine lM rfl ?_
     refine lV (y_bin rfl rfl rfl (fitU8 (m := v - 247) (by omega) (by omega))) ?_
     refine lV (y_conv cv_5_21 rfl (fitI (m := v - 247) rfl (by omega))) ?_
     refine lV (y_bin rfl rfl rfl (fitI (m := (v - 247) * 256) (by omega) (by omega))) ?_
     refine lM rfl ?_
     refine lV (y_conv cv_5_21 rfl (fitI (m := a) rfl (by omega))) ?_
     refine lV (y_bin rfl rfl rfl (fitI (m := (v - 247) * 256 + a) (by omega) (by omega))) ?_
     refine lV (y_bin rfl rfl rfl (fitI (m := (v - 247) * 256 + a + 108) (by omega) (by omega))) ?_
     refine lV (y_convIF cf_21_41 rfl (by omega)) ?_
     refine lA rfl ?_
     refine lA rfl ?_
     refine l_nil ?_
     exact q_cut ((((v - 247) * 256 + a + 108 : Nat) : Int) * 65536, 2) (by first | (rw [hz]; done) | (rw [hz]; exact Prod.ext (by simp only <;> omega) rfl)) ⟨rfl, rfl, rfl, trivial⟩ (.cons .here .nil)
    ·have hv251 : 251 ≤ v := by simp only [decide_eq_false_iff_not] at hc182; omega
     refine cR ?_
     refine lM rfl ?_
     refine lB rfl rfl rfl rfl ?_
     refine lA rfl ?_
     refine nQ ?_
     refine c_cond rfl (fun hc215 => ?_) (fun hc215 => ?_)
     ·have hv255 : v < 255 := by simp only [decide_eq_true_eq] at hc215; omega
      obtain ⟨a, r2, rfl, hz⟩ := numB_251 hv251 hv255 hn
      have ha := hb a (by simp)
      refine c_seq ?_
      refine cR ?_
      refine lM rfl ?_
      refine lN rfl ?_
      refine lV (y_fieldAddr fo_95_2 rfl) ?_
      refine lV (y_load1 ld_22 rfl m0 hm.cod) ?_
      refine lV (y_len sl_22 rfl) ?_
      refine lV (y_bin rfl rfl rfl (boolF (by simp only [List.length_cons]; omega))) ?_
      refine nQ ?_
      refine c_false rfl rfl ?_
      refine kR ?_
      refine lM rfl ?_
      refine lN rfl ?_
      refine lV (y_fieldAddr fo_95_2 rfl) ?_
      refine lV (y_load1 ld_22 rfl m0 hm.cod) ?_
      refine lV (y_indexAddr (j := 1) es_22 rfl rfl (by simp)) ?_
      refine lV (y_oldLoad1 ld_5 rfl (by rw [block_add]; exact hpb) (by rw [block_add]; exact hpS) (hpc 1 a rfl)) ?_
      refine lA rfl ?_
      refine nR ?_
      refine lM rfl ?_
      refine lM rfl ?_
      refine lN rfl ?_
      refine lV (y_fieldAddr fo_95_2 rfl) ?_
      refine lV (y_load1 ld_22 rfl m0 hm.cod) ?_
      refine lV (y_sliceLo (i := 2) es_22 rfl rfl (by simp) hcl) ?_
      refine lN rfl ?_
      refine lV (y_fieldAddr fo_95_2 rfl) ?_
      refine l_does rfl rfl (g_store1 (cs' := (Mc.set 2 (.slice (some (if cl = 2 then p else p.add (2 * 1))) ((v :: a :: r2).length - 2) (cl - 2)))) sz_22 rfl rfl (by first | rfl | assumption) (blt_of (by first | omega | (simp only [List.length_set]; omega))) (by first | rfl | assumption) rfl .here) ?_
      intro _ _
      refine nG ?_
      refine lM rfl ?_
      refine lV (y_bin rfl rfl rfl (fitU8 (m := v - 251) (by omega) (by omega))) ?_
      refine lV (y_conv cv_5_21 rfl (fitI (m := v - 251) rfl (by omega))) ?_
      refine lV (y_neg rfl (fit32 (by omega) (by omega))) ?_
      refine lV (y_bin rfl rfl rfl (fit32 (by omega) (by omega))) ?_
      refine lM rfl ?_
      refine lV (y_conv cv_5_21 rfl (fitI (m := a) rfl (by omega))) ?_
      refine lV (y_bin rfl rfl rfl (fit32 (by omega) (by omega))) ?_
      refine lV (y_bin rfl rfl rfl (fit32 (by omega) (by omega))) ?_
      refine lV (y_convIF cf_21_41 rfl (by omega)) ?_
      refine lA rfl ?_
      refine lA rfl ?_
      refine l_nil ?_
      exact q_cut ((-(((v - 251 : Nat)) : Int) * 256 - a - 108) * 65536, 2) (by first | (rw [hz]; done) | (rw [hz]; exact Prod.ext (by simp only <;> omega) rfl)) ⟨rfl, rfl, rfl, trivial⟩ (.cons .here .nil)
     ·have hv255 : v = 255 := by simp only [decide_eq_false_iff_not] at hc215; omega
      subst hv255
      obtain ⟨a, b, c, d, r2, rfl, hz⟩ := numB_255 hn
      have ha := hb a (by simp)
      have hb2 := hb b (by simp)
      have hc2 := hb c (by simp)
      have hd2 := hb d (by simp)
      have hb1 : ∀ u ∈ a :: b :: c :: d :: r2, u < 256 := fun u hu => hb u (List.mem_cons_of_mem _ hu)
      refine cR ?_
      refine lM rfl ?_
      refine lV (y_bin rfl rfl rfl (by first | rfl | exact boolT_eq (by omega))) ?_
      refine lM rfl ?_
      refine l_want rfl rfl ?_
      refine lM rfl ?_
      refine l_want rfl rfl ?_
      refine lN rfl ?_
      refine l_want rfl rfl ?_
      refine lV (y_fieldAddr fo_95_6 rfl) ?_
      refine l_want rfl rfl ?_
      refine lV (y_load1 ld_93 rfl m0 hm.ctx) ?_
      refine l_want rfl rfl ?_
      refine lV (y_bin rfl rfl rfl (by first | rfl | exact boolT_eq (by omega))) ?_
      refine l_want rfl rfl ?_
      refine lM rfl ?_
      refine l_not rfl rfl rfl rfl ?_
      refine l_not rfl rfl rfl rfl ?_
      refine l_not rfl rfl rfl rfl ?_
      refine l_not rfl rfl rfl rfl ?_
      refine l_not rfl rfl rfl rfl ?_
      refine l_want rfl rfl ?_
      refine lV (y_pick rfl rfl rfl) ?_
      refine lV (y_pick rfl rfl rfl) ?_
      refine lA rfl ?_
      refine nQ ?_
      refine c_true rfl rfl ?_
      refine c_seq ?_
      refine cR ?_
      refine lM rfl ?_
      refine lN rfl ?_
      refine lV (y_fieldAddr fo_95_2 rfl) ?_
      refine lV (y_load1 ld_22 rfl m0 hm.cod) ?_
      refine lV (y_len sl_22 rfl) ?_
      refine lV (y_bin rfl rfl rfl (boolF (by simp only [List.length_cons]; omega))) ?_
      refine nQ ?_
      refine c_false rfl rfl ?_
      refine kQ ?_
      refine c_seq ?_
      refine c_drawH mixed rfl ?_
      refine dV 0 rfl (y_loadZ ld_121 rfl) ?_
      refine dM 1 rfl rfl ?_
      refine dN 2 rfl rfl ?_
      refine dV 3 rfl (y_fieldAddr fo_95_2 rfl) ?_
      refine dV 4 rfl (y_load1 ld_22 rfl m0 hm.cod) ?_
      refine dV 5 rfl (y_sliceLoM (i := 1) (m' := (a :: b :: c :: d :: r2).length) es_22 rfl rfl (by simp) hcl (by simp)) ?_
      refine d_ready (i := 6) (rs := []) (by kernel_rfl) (.cons .here .nil) (all_one ?_)
      refine o_call rfl (no_guard rfl) ok_36 rfl rfl (out_keepH (fun w9 hw9 => f36_any w9 a b c d (cl - 1) r2 _ hb1 ((hR.drop (k := 1) (by simp) hcl).empty hw9))) ?_
      intro _ _
      refine dV 7 rfl (y_conv cv_80_21 rfl rfl) ?_
      refine dV 8 rfl (y_assign rfl) ?_
      refine d_end (by kernel_rfl) (.cons .here .nil) ?_
      refine q_then ?_
      refine c_seq ?_
      refine cR ?_
      refine lM rfl ?_
      refine lN rfl ?_
      refine lV (y_fieldAddr fo_95_6 rfl) ?_
      refine lV (y_load1 ld_93 rfl m0 hm.ctx) ?_
      refine lV (y_bin rfl rfl rfl (by rfl)) ?_
      refine nQ ?_
      refine c_true rfl rfl ?_
      refine cR ?_
      refine lM rfl ?_
      refine lV (y_convIF cf_21_41 rfl (by have := wrap_i32 ((((a * 256 + b) * 256 + c) * 256 + d : Nat) : Int); omega)) ?_
      refine lV (y_div65 rfl rfl (by have := wrap_i32 ((((a * 256 + b) * 256 + c) * 256 + d : Nat) : Int); omega)) ?_
      refine lA rfl ?_
      refine nG ?_
      refine lA rfl ?_
      refine nG ?_
      refine lM rfl ?_
      refine lM rfl ?_
      refine lN rfl ?_
      refine lV (y_fieldAddr fo_95_2 rfl) ?_
      refine lV (y_load1 ld_22 rfl m0 hm.cod) ?_
      refine lV (y_sliceLo (i := 5) es_22 rfl rfl (by simp) hcl) ?_
      refine lN rfl ?_
      refine lV (y_fieldAddr fo_95_2 rfl) ?_
      refine l_does rfl rfl (g_store1 (cs' := (Mc.set 2 (.slice (some (if cl = 5 then p else p.add (5 * 1))) ((255 :: a :: b :: c :: d :: r2).length - 5) (cl - 5)))) sz_22 rfl rfl (by first | rfl | assumption) (blt_of (by first | omega | (simp only [List.length_set]; omega))) (by first | rfl | assumption) rfl .here) ?_
      intro _ _
      refine l_nil ?_
      exact q_cut (IntKind.i32.wrap ((((a * 256 + b) * 256 + c) * 256 + d : Nat) : Int), 5) (by first | (rw [hz]; done) | (rw [hz]; exact Prod.ext (by simp only <;> omega) rfl)) ⟨rfl, rfl, rfl, trivial⟩ (.cons .here .nil)
 intro z hzz
 subst hzz
 refine q_block ?_
 refine q_then ?_
 refine c_seq ?_
 refine cR ?_
 refine lM rfl ?_
 refine nQ ?_
 refine c_true rfl rfl ?_
 refine c_seq ?_
 refine cR ?_
 refine lM rfl ?_
 refine lN rfl ?_
 refine lV (y_fieldAddr fo_95_4 rfl) ?_
 refine lV (y_fieldAddr fo_91_1 rfl) ?_
 refine lV (y_load1 ld_21 rfl m0 (set_other (by omega) hm.tp)) ?_
 refine lV (y_bin rfl rfl rfl (boolF_eq (by omega))) ?_
 refine nQ ?_
 refine c_false rfl rfl ?_
 refine kQ ?_
 refine c_seq ?_
 refine c_draw [] mixed rfl ?_
 refine dM 0 rfl rfl ?_
 refine dM 1 rfl rfl ?_
 refine dN 2 rfl rfl ?_
 refine dV 3 rfl (y_fieldAddr fo_95_4 rfl) ?_
 refine dV 4 rfl (y_fieldAddr fo_91_1 rfl) ?_
 refine dM 6 rfl rfl ?_
 refine dN 7 rfl rfl ?_
 refine dV 8 rfl (y_fieldAddr fo_95_4 rfl) ?_
 refine dV 9 rfl (y_fieldAddr fo_91_0 rfl) ?_
 refine d_ready (i := 5) (rs := []) (by kernel_rfl) .nil (all_one ?_)
 refine o_gives rfl rfl rfl (gy (y_load1 ld_21 rfl m0 (set_other (by omega) hm.tp))) rfl ?_
 intro _ _
 refine dV 10 rfl (y_indexArr (j := st.length) ar_89 rfl rfl (blt_of (by omega))) ?_
 refine d_ready (i := 11) (rs := []) (by kernel_rfl) .nil (all_one ?_)
 refine o_does rfl rfl rfl (g_store1 (cs' := ((Mc.set 2 (.slice (some (if cl = z.2 then p else p.add (z.2 * 1))) ((v :: r).length - z.2) (cl - z.2))).set (14 + st.length * 1) (.float .f64 (F z.1)))) sz_41 rfl rfl (by first | rfl | assumption) (blt_of (by first | omega | (simp only [List.length_set]; omega))) (by first | rfl | assumption) rfl .here) ?_
 intro _ _
 refine d_end (by kernel_rfl) .nil ?_
 refine qG ?_
 refine lM rfl ?_
 refine lN rfl ?_
 refine lV (y_fieldAddr fo_95_4 rfl) ?_
 refine lV (y_fieldAddr fo_91_1 rfl) ?_
 refine lV (y_load1 ld_21 rfl m0 (set_other (by omega) (set_other (by omega) hm.tp))) ?_
 refine lV (y_bin rfl rfl rfl (fitI (m := st.length + 1) (by omega) (by omega))) ?_
 refine lN rfl ?_
 refine lV (y_fieldAddr fo_95_4 rfl) ?_
 refine lV (y_fieldAddr fo_91_1 rfl) ?_
 refine l_does rfl rfl (g_store1 (cs' := (((Mc.set 2 (.slice (some (if cl = z.2 then p else p.add (z.2 * 1))) ((v :: r).length - z.2) (cl - z.2))).set (14 + st.length * 1) (.float .f64 (F z.1))).set 527 (.int .i32 ((st.length + 1 : Nat) : Int)))) sz_21 rfl rfl (by first | rfl | assumption) (blt_of (by first | omega | (simp only [List.length_set]; omega))) (by first | rfl | assumption) rfl .here) ?_
 intro _ _
 refine nR ?_
 refine lM rfl ?_
 refine lA rfl ?_
 refine lA rfl ?_
 refine nQ ?_
 refine c_ret ?_
 exact body_ret (rs := [.tmp 2, .tmp 3]) rfl (vs := [.bool true, .nilIface]) ⟨rfl, rfl, trivial⟩ (out_end () trivial rfl .refl) _ (.inr rfl)
set_option maxHeartbeats 8000000 in
theorem f33_no (w : World) (bM v cl : Nat) (r : List Nat) (p : Addr) (hcl : (v :: r).length ≤ cl) (hb : ∀ u ∈ v :: r, u < 256) (hR : RdB w [bM] (some p) (v :: r)) (Mc : List Value) (lo gl : Value) (fr : List Value) (st : List Int) (hm : MOk Mc lo gl (.slice (some p) (v :: r).length cl) fr st) (hv32 : v < 32) (hv28 : v ≠ 28) (hw : Hp w [bM] [(bM, Mc, 95)] w) : Calls Tryz.prog 33 [.pointer (some ⟨bM, 0, none⟩)].toArray w (Out w [bM] (fun z : Unit => True) (fun z => .tuple #[.bool false, .nilIface]) (fun z => [(bM, Mc, 95)])) := by
 have hml := hm.len
 have hms := hm.stl
 obtain ⟨p2, hp2, hpb, hpS, hpc⟩ := hR.ptr
 injection hp2 with hp2
 subst hp2
 have hv := hb v (by simp)
 refine enter (n := 328) Tryz.func33 rfl rfl rfl hw ?_
 refine cR ?_
 refine lA rfl ?_
 refine lA rfl ?_
 refine nR ?_
 refine lA rfl ?_
 refine nQ ?_
 refine c_seq ?_
 refine cR ?_
 refine lM rfl ?_
 refine lN rfl ?_
 refine lV (y_fieldAddr fo_95_2 rfl) ?_
 refine lV (y_load1 ld_22 rfl m0 hm.cod) ?_
 refine lV (y_indexAddr (j := 0) es_22 rfl rfl (by simp)) ?_
 refine lV (y_oldLoad1 ld_5 rfl (by rw [block_add]; exact hpb) (by rw [block_add]; exact hpS) (hpc 0 v rfl)) ?_
 refine lA rfl ?_
 refine nQ ?_
 refine c_block ?_
 refine cR ?_
 refine lM rfl ?_
 refine lV (y_bin rfl rfl rfl (boolF_eq (by omega))) ?_
 refine lA rfl ?_
 refine nQ ?_
 refine c_false rfl rfl ?_
 refine cR ?_
 refine lM rfl ?_
 refine lB rfl rfl rfl rfl ?_
 refine lM rfl ?_
 refine l_split (t := 51) rfl rfl (fun hs51 => ?_) (fun hs51 => ?_)
 ·refine l_want rfl rfl ?_
  refine lM rfl ?_
  refine l_want rfl rfl ?_
  refine lN rfl ?_
  refine l_want rfl rfl ?_
  refine lV (y_fieldAddr fo_95_6 rfl) ?_
  refine l_want rfl rfl ?_
  refine lV (y_load1 ld_93 rfl m0 hm.ctx) ?_
  refine l_want rfl rfl ?_
  refine lV (y_bin rfl rfl rfl (by rfl)) ?_
  refine lV (y_pick rfl rfl rfl) ?_
  refine lA rfl ?_
  refine nQ ?_
  refine c_false rfl rfl ?_
  refine cR ?_
  refine lM rfl ?_
  refine lB rfl rfl rfl rfl ?_
  refine lM rfl ?_
  refine l_split (t := 85) rfl rfl (fun hs85 => ?_) (fun hs85 => ?_)
  ·refine l_want rfl rfl ?_
   refine lM rfl ?_
   refine l_want rfl rfl ?_
   refine lN rfl ?_
   refine l_want rfl rfl ?_
   refine lV (y_fieldAddr fo_95_6 rfl) ?_
   refine l_want rfl rfl ?_
   refine lV (y_load1 ld_93 rfl m0 hm.ctx) ?_
   refine l_want rfl rfl ?_
   refine lV (y_bin rfl rfl rfl (by rfl)) ?_
   refine lV (y_pick rfl rfl rfl) ?_
   refine lM rfl ?_
   refine l_not rfl rfl rfl rfl ?_
   refine l_not rfl rfl rfl rfl ?_
   refine l_not rfl rfl rfl rfl ?_
   refine l_not rfl rfl rfl rfl ?_
   refine l_not rfl rfl rfl rfl ?_
   refine lV (y_pick rfl rfl rfl) ?_
   refine lA rfl ?_
   refine nQ ?_
   refine c_false rfl rfl ?_
   refine cR ?_
   refine lM rfl ?_
   refine lV (y_bin rfl rfl rfl (boolT (by omega))) ?_
   refine lA rfl ?_
   refine nQ ?_
   refine c_true rfl rfl ?_
   refine c_skip ?_
   refine q_block ?_
   refine q_then ?_
   refine c_seq ?_
   refine cR ?_
   refine lM rfl ?_
   refine nQ ?_
   refine c_false rfl rfl ?_
   refine kR ?_
   refine lM rfl ?_
   refine lA rfl ?_
   refine lA rfl ?_
   refine nQ ?_
   refine c_ret ?_
   exact body_ret (rs := [.tmp 2, .tmp 3]) rfl (vs := [.bool false, .nilIface]) ⟨rfl, rfl, trivial⟩ (out_end () trivial rfl .refl) _ (.inr rfl)
  ·refine l_not rfl rfl rfl rfl ?_
   refine l_not rfl rfl rfl rfl ?_
   refine l_not rfl rfl rfl rfl ?_
   refine l_not rfl rfl rfl rfl ?_
   refine l_not rfl rfl rfl rfl ?_
   refine lV (y_pick rfl rfl rfl) ?_
   refine lM rfl ?_
   refine l_not rfl rfl rfl rfl ?_
   refine l_not rfl rfl rfl rfl ?_
   refine l_not rfl rfl rfl rfl ?_
   refine l_not rfl rfl rfl rfl ?_
   refine l_not rfl rfl rfl rfl ?_
   refine lV (y_pick rfl rfl rfl) ?_
   refine lA rfl ?_
   refine nQ ?_
   refine c_false rfl rfl ?_
   refine cR ?_
   refine lM rfl ?_
   refine lV (y_bin rfl rfl rfl (boolT (by omega))) ?_
   refine lA rfl ?_
   refine nQ ?_
   refine c_true rfl rfl ?_
   refine c_skip ?_
   refine q_block ?_
   refine q_then ?_
   refine c_seq ?_
   refine cR ?_
   refine lM rfl ?_
   refine nQ ?_
   refine c_false rfl rfl ?_
   refine kR ?_
   refine lM rfl ?_
   refine lA rfl ?_
   refine lA rfl ?_
   refine nQ ?_
   refine c_ret ?_
   exact body_ret (rs := [.tmp 2, .tmp 3]) rfl (vs := [.bool false, .nilIface]) ⟨rfl, rfl, trivial⟩ (out_end () trivial rfl .refl) _ (.inr rfl)
 ·refine l_not rfl rfl rfl rfl ?_
  refine l_not rfl rfl rfl rfl ?_
  refine l_not rfl rfl rfl rfl ?_
  refine l_not rfl rfl rfl rfl ?_
  refine l_not rfl rfl rfl rfl ?_
  refine lV (y_pick rfl rfl rfl) ?_
  refine lA rfl ?_
  refine nQ ?_
  refine c_false rfl rfl ?_
  refine cR ?_
  refine lM rfl ?_
  refine lB rfl rfl rfl rfl ?_
  refine lM rfl ?_
  refine l_split (t := 85) rfl rfl (fun hs85 => ?_) (fun hs85 => ?_)
  ·refine l_want rfl rfl ?_
   refine lM rfl ?_
   refine l_want rfl rfl ?_
   refine lN rfl ?_
   refine l_want rfl rfl ?_
   refine lV (y_fieldAddr fo_95_6 rfl) ?_
   refine l_want rfl rfl ?_
   refine lV (y_load1 ld_93 rfl m0 hm.ctx) ?_
   refine l_want rfl rfl ?_
   refine lV (y_bin rfl rfl rfl (by rfl)) ?_
   refine lV (y_pick rfl rfl rfl) ?_
   refine lM rfl ?_
   refine l_not rfl rfl rfl rfl ?_
   refine l_not rfl rfl rfl rfl ?_
   refine l_not rfl rfl rfl rfl ?_
   refine l_not rfl rfl rfl rfl ?_
   refine l_not rfl rfl rfl rfl ?_
   refine lV (y_pick rfl rfl rfl) ?_
   refine lA rfl ?_
   refine nQ ?_
   refine c_false rfl rfl ?_
   refine cR ?_
   refine lM rfl ?_
   refine lV (y_bin rfl rfl rfl (boolT (by omega))) ?_
   refine lA rfl ?_
   refine nQ ?_
   refine c_true rfl rfl ?_
   refine c_skip ?_
   refine q_block ?_
   refine q_then ?_
   refine c_seq ?_
   refine cR ?_
   refine lM rfl ?_
   refine nQ ?_
   refine c_false rfl rfl ?_
   refine kR ?_
   refine lM rfl ?_
   refine lA rfl ?_
   refine lA rfl ?_
   refine nQ ?_
   refine c_ret ?_
   exact body_ret (rs := [.tmp 2, .tmp 3]) rfl (vs := [.bool false, .nilIface]) ⟨rfl, rfl, trivial⟩ (out_end () trivial rfl .refl) _ (.inr rfl)
  ·refine l_not rfl rfl rfl rfl ?_
   refine l_not rfl rfl rfl rfl ?_
   refine l_not rfl rfl rfl rfl ?_
   refine l_not rfl rfl rfl rfl ?_
   refine l_not rfl rfl rfl rfl ?_
   refine lV (y_pick rfl rfl rfl) ?_
   refine lM rfl ?_
   refine l_not rfl rfl rfl rfl ?_
   refine l_not rfl rfl rfl rfl ?_
   refine l_not rfl rfl rfl rfl ?_
   refine l_not rfl rfl rfl rfl ?_
   refine l_not rfl rfl rfl rfl ?_
   refine lV (y_pick rfl rfl rfl) ?_
   refine lA rfl ?_
   refine nQ ?_
   refine c_false rfl rfl ?_
   refine cR ?_
   refine lM rfl ?_
   refine lV (y_bin rfl rfl rfl (boolT (by omega))) ?_
   refine lA rfl ?_
   refine nQ ?_
   refine c_true rfl rfl ?_
   refine c_skip ?_
   refine q_block ?_
   refine q_then ?_
   refine c_seq ?_
   refine cR ?_
   refine lM rfl ?_
   refine nQ ?_
   refine c_false rfl rfl ?_
   refine kR ?_
   refine lM rfl ?_
   refine lA rfl ?_
   refine lA rfl ?_
   refine nQ ?_
   refine c_ret ?_
   exact body_ret (rs := [.tmp 2, .tmp 3]) rfl (vs := [.bool false, .nilIface]) ⟨rfl, rfl, trivial⟩ (out_end () trivial rfl .refl) _ (.inr rfl)
end Go.Proofs.YtbepljmeflndkaaGreatDoor
