/- Part 4 of the proof about FnCharstring. -/
import Derived.Test.YtbepljmeflndkaaGreatDoorQ03
namespace Go.Proofs.YtbepljmeflndkaaGreatDoor
open Go.Eng Go.Fl
set_option maxRecDepth 100000
attribute [local irreducible] IntKind.wrap Int.tdiv Int.tmod Int.emod maxLen F G
/-- The panic by which the reference says that something is not decided. -/
def PO (c : List PanicEntry) : Prop := c = [{ v := .iface 38 (.agg #[]), recovered := false }]
theorem boolT {p : Prop} [Decidable p] (h : p) : Value.bool (decide p) = .bool true := by rw [decide_eq_true h]
theorem boolF {p : Prop} [Decidable p] (h : ¬ p) : Value.bool (decide p) = .bool false := by rw [decide_eq_false h]
theorem f19_any (w : World)  : Calls Tryz.prog 19 [].toArray w (OutP w [] (fun z : Unit => False) (fun z => .tuple #[]) (fun z => []) PO) := by
 have hP : Pq PO (bodyPost Tryz.prog Tryz.f19 (OutP w [] (fun z : Unit => False) (fun z => .tuple #[]) (fun z => []) PO)) 2 [] w [] := bodyP_out
 refine enter (n := 2) Tryz.func19 rfl rfl rfl (Hp.refl w) ?_
 refine c_region ?_
 refine lV (y_build1 (out := []) bp_38 rfl rfl rfl) ?_
 refine lV (y_iface ni_38 rfl) ?_
 exact l_panic rfl (run_panic_iface _ _) hP rfl
theorem f12_any (w : World) (b : Bool) : Calls Tryz.prog 12 [.bool b].toArray w (OutP w [] (fun z : Unit => b = true) (fun z => .tuple #[]) (fun z => []) PO) := by
 have hP : Pq PO (bodyPost Tryz.prog Tryz.f12 (OutP w [] (fun z : Unit => b = true) (fun z => .tuple #[]) (fun z => []) PO)) 5 [] w [] := bodyP_out
 refine enter (n := 5) Tryz.func12 rfl rfl rfl (Hp.refl w) ?_
 refine cR ?_
 refine lM rfl ?_
 refine lV (y_not rfl) ?_
 refine nQ ?_
 refine c_cond rfl (fun hc3 => ?_) (fun hc3 => ?_)
 ·refine c_region ?_
  refine l_callP hP ok_19 rfl rfl (out_newP (fun w1 hw1 => f19_any w1)) ?_
  intro _ hF
  exact absurd hF (by simp)
 ·refine c_skip ?_
  exact body_ret (rs := []) rfl (vs := []) trivial (out_endP () (by simpa using hc3) rfl .nil) _ (.inl rfl)
theorem f20_any (w : World) (n : Nat) (hn : n ≤ 300) : Calls Tryz.prog 20 [.int .i64 (n : Int)].toArray w (Out w [] (fun z : Unit => True) (fun z => .int .i64 107) (fun z => [])) := by
 refine enter (n := 9) Tryz.func20 rfl rfl rfl (Hp.refl w) ?_
 refine cR ?_
 refine lA rfl ?_
 refine nQ ?_
 refine c_seq ?_
 refine c_block ?_
 refine cR ?_
 refine lM rfl ?_
 refine lV (y_bin rfl rfl rfl (boolT (by omega))) ?_
 refine lA rfl ?_
 refine nQ ?_
 refine c_true rfl rfl ?_
 refine cR ?_
 refine lA rfl ?_
 refine nQ ?_
 refine c_ret ?_
 refine q_block_ret ?_
 refine q_then_ret ?_
 exact body_ret (rs := [.tmp 2]) rfl (vs := [.int .i64 107]) ⟨rfl, trivial⟩ (out_end () trivial rfl .nil) _ (.inr rfl)
theorem f34_any (w : World) (x1 y1 : Int) (hx : x1.natAbs < 2 ^ 53) (hy : y1.natAbs < 2 ^ 53) : Calls Tryz.prog 34 [.float .f64 (F x1), .float .f64 (F y1)].toArray w (Out w [] (fun z : Unit => True) (fun z => .tuple #[.float .f32 (G x1), .float .f32 (G y1)]) (fun z => [])) := by
 refine enter (n := 10) Tryz.func34 rfl rfl rfl (Hp.refl w) ?_
 refine cR ?_
 refine lA rfl ?_
 refine lA rfl ?_
 refine nR ?_
 refine lM rfl ?_
 refine lV (y_convFF cf_41_28 rfl hx) ?_
 refine lM rfl ?_
 refine lV (y_convFF cf_41_28 rfl hy) ?_
 refine lA rfl ?_
 refine lA rfl ?_
 refine nQ ?_
 refine c_ret ?_
 exact body_ret (rs := [.tmp 4, .tmp 5]) rfl (vs := [.float .f32 (G x1), .float .f32 (G y1)]) ⟨rfl, rfl, trivial⟩ (out_end () trivial rfl .nil) _ (.inr rfl)
/-- A piece of an outline, as words. -/
structure Stk where
  (op : Int) (a0 a1 a2 b0 b1 b2 : Nat)
def Stk.cells (s : Stk) : List Value := [.int .i64 s.op, .float .f32 s.a0, .float .f32 s.a1, .float .f32 s.a2, .float .f32 s.b0, .float .f32 s.b1, .float .f32 s.b2]
def encS (l : List Stk) : List Value := l.flatMap Stk.cells
theorem Stk.one (s : Stk) : ∀ u ∈ Stk.cells s, u.oneCell' = true := List.all_eq_true.1 (show (Stk.cells s).all Value.oneCell' = true from rfl)
theorem encS_snoc (l : List Stk) (s : Stk) : encS l ++ Stk.cells s = encS (l ++ [s]) := by simp [encS]
def stk1 (op : Int) (x y : Int) : Stk := ⟨op, G x, 0, 0, G y, 0, 0⟩
def stk3 (op : Int) (x0 y0 x1 y1 x2 y2 : Int) : Stk := ⟨op, G x0, G x1, G x2, G y0, G y1, G y2⟩
/-- Points that a slice has, in memory that was there and is not among S. -/
def RdP (w : World) (S : List Nat) (A : Option Addr) (ps : List (Int × Int)) : Prop := ∃ p, A = some p ∧ p.block < w.heap.size ∧ p.block ∉ S ∧ ∀ i (q : Int × Int), ps[i]? = some q → w.cell? (p.add (i * 2)) = some (.float .f64 (F q.1)) ∧ w.cell? (p.add (i * 2 + 1)) = some (.float .f64 (F q.2))
theorem RdP.row {w : World} {p : Addr} {ps : List (Int × Int)} (h : ∀ i (q : Int × Int), ps[i]? = some q → w.cell? (p.add (i * 2)) = some (.float .f64 (F q.1)) ∧ w.cell? (p.add (i * 2 + 1)) = some (.float .f64 (F q.2))) {i : Nat} {q : Int × Int} (hq : ps[i]? = some q) :
    ∀ j v, ([.float .f64 (F q.1), .float .f64 (F q.2)] : List Value)[j]? = some v → w.cell? ((p.add (i * 2)).add j) = some v := by
  intro j v hj
  obtain ⟨h1, h2⟩ := h i q hq
  rw [add_add]
  match j, hj with
  | 0, hj => simp at hj; subst hj; exact h1
  | 1, hj => simp at hj; subst hj; exact h2
  | j + 2, hj => simp at hj
theorem gy {P : Program} {n : Nat} {D : List Deferred} {w0 : World} {S : List Nat} {o : Oper} {L : Slots} {H : Heap} {v : Value} (h : Go.Eng.Yields P n D w0 S o L H v) : Go.Eng.Gives P n D w0 S o L H (fun _ : Unit => True) (fun _ => v) (fun _ => H) := fun a w ha hw => ⟨(), w, trivial, .inl (h a w ha hw), hw⟩
set_option maxHeartbeats 2000000 in
theorem f28_1 (w : World) (bC cl : Nat) (op x y fx fy : Int) (o : Bool) (out : List Stk) (so : Sv) (rest : List Value) (A : Option Addr) (x0 y0 : Int) (hx0 : x0.natAbs < 2 ^ 53) (hy0 : y0.natAbs < 2 ^ 53) (hok : slOk so out.length 7 (encS out)) (hlen : out.length ≤ 100000) (hR : RdP w (((bC, slV so out.length :: .float .f64 (F x) :: .float .f64 (F y) :: .bool o :: .float .f64 (F fx) :: .float .f64 (F fy) :: rest, 46) :: slH so (encS out) 34).map (·.1)) A [(x0, y0)]) (hw : Hp w (((bC, slV so out.length :: .float .f64 (F x) :: .float .f64 (F y) :: .bool o :: .float .f64 (F fx) :: .float .f64 (F fy) :: rest, 46) :: slH so (encS out) 34).map (·.1)) ((bC, slV so out.length :: .float .f64 (F x) :: .float .f64 (F y) :: .bool o :: .float .f64 (F fx) :: .float .f64 (F fy) :: rest, 46) :: slH so (encS out) 34) w) : Calls Tryz.prog 28 [.pointer (some ⟨bC, 0, none⟩), .int .i64 op, .slice A 1 cl].toArray w (Out w (((bC, slV so out.length :: .float .f64 (F x) :: .float .f64 (F y) :: .bool o :: .float .f64 (F fx) :: .float .f64 (F fy) :: rest, 46) :: slH so (encS out) 34).map (·.1)) (fun z : Sv => slOk z (out ++ [(stk1 op x0 y0)]).length 7 (encS (out ++ [(stk1 op x0 y0)]))) (fun z => .tuple #[]) (fun z => (bC, slV z (out ++ [(stk1 op x0 y0)]).length :: .float .f64 (F x0) :: .float .f64 (F y0) :: .bool o :: .float .f64 (F fx) :: .float .f64 (F fy) :: rest, 46) :: slH z (encS (out ++ [(stk1 op x0 y0)])) 34)) := by
 obtain ⟨p, rfl, hpb, hpS, hpc⟩ := hR
 refine enter (n := 53) Tryz.func28 rfl rfl rfl hw ?_
 refine cR ?_
 refine lM rfl ?_
 refine lV (y_build1 (out := [_, _, _, _, _, _, _]) bp_34 rfl rfl rfl) ?_
 refine l_gives rfl rfl (g_alloc ze_34) rfl ?_
 intro b6 hb6
 refine l_does rfl rfl (g_storeN (vs := [_, _, _, _, _, _, _]) (cs' := [_, _, _, _, _, _, _]) sz_34 rfl rfl rfl rfl rfl rfl rfl .here) ?_
 intro _ _
 refine nQ ?_
 refine c_seq ?_
 refine cR ?_
 refine lM rfl ?_
 refine lV (y_len sl_118 rfl) ?_
 refine lM rfl ?_
 refine nQ ?_
 refine c_block ?_
 refine c_loopU ?_
 refine c_unroll ?_
 refine cR ?_
 refine lB rfl rfl rfl rfl ?_
 refine nQ ?_
 refine c_seq ?_
 refine c_true rfl rfl ?_
 refine kQ ?_
 refine c_seq ?_
 refine c_block ?_
 refine cR ?_
 refine lM rfl ?_
 refine lV (y_indexAddr (j := 0) es_118 rfl rfl (by decide)) ?_
 refine lV (y_oldLoadN (vs := [.float .f64 (F x0), .float .f64 (F y0)]) ld_106 rfl (by rw [block_add]; exact hpb) (by rw [block_add]; exact hpS) rfl (RdP.row hpc (i := 0) rfl)) ?_
 refine l_gives rfl rfl (g_alloc ze_106) rfl ?_
 intro b8 hb8
 refine lA rfl ?_
 refine l_does rfl rfl (g_storeN (vs := [_, _]) (cs' := [_, _]) sz_106 rfl rfl rfl rfl rfl rfl rfl .here) ?_
 intro _ _
 refine nR ?_
 refine lM rfl ?_
 refine lM rfl ?_
 refine lV (y_indexArr (j := 0) ar_106 rfl rfl rfl) ?_
 refine lV (y_load1 ld_41 rfl m0 rfl) ?_
 refine lV (y_indexArr (j := 1) ar_106 rfl rfl rfl) ?_
 refine lV (y_load1 ld_41 rfl m0 rfl) ?_
 refine l_call ok_34 rfl rfl (fun w1 hw1 => out_plain hw1 (f34_any w1 x0 y0 hx0 hy0)) ?_
 intro _ _
 refine lM rfl ?_
 refine lV (y_extract rfl rfl) ?_
 refine lV (y_extract rfl rfl) ?_
 refine lV (y_fieldAddr fo_34_1 rfl) ?_
 refine lV (y_indexArr (j := 0) ar_32 rfl rfl rfl) ?_
 refine l_does rfl rfl (g_store1 (cs' := [_, _, _, _, _, _, _]) sz_28 rfl rfl rfl rfl rfl rfl (.there .here)) ?_
 intro _ _
 refine lV (y_fieldAddr fo_34_2 rfl) ?_
 refine lV (y_indexArr (j := 0) ar_32 rfl rfl rfl) ?_
 refine l_does rfl rfl (g_store1 (cs' := [_, _, _, _, _, _, _]) sz_28 rfl rfl rfl rfl rfl rfl (.there .here)) ?_
 intro _ _
 refine nQ ?_
 refine c_cut (ι := Unit) (φ := fun _ => True) (L' := fun _ => [(0, .pointer (some ⟨bC, 0, none⟩)), (6, .pointer (some ⟨b6, 0, none⟩)), (11, .slice (some p) 1 cl), (12, .int .i64 1), (13, .int .i64 0)]) (H' := fun _ => (b6, [.int .i64 op, .float .f32 (G x0), .float .f32 0, .float .f32 0, .float .f32 (G y0), .float .f32 0, .float .f32 0], 34) :: (bC, slV so out.length :: .float .f64 (F x0) :: .float .f64 (F y0) :: .bool o :: .float .f64 (F fx) :: .float .f64 (F fy) :: rest, 46) :: slH so (encS out) 34) ?_ ?_
 ·refine c_draw [(b8, [.float .f64 (F x0), .float .f64 (F y0)], 106)] mixed rfl ?_
  refine dM 0 rfl rfl ?_
  refine dM 1 rfl rfl ?_
  refine dV 2 rfl (y_indexArr (j := 0) ar_106 rfl rfl rfl) ?_
  refine dV 3 rfl (y_load1 ld_41 rfl m0 rfl) ?_
  refine dV 4 rfl (y_indexArr (j := 1) ar_106 rfl rfl rfl) ?_
  refine dV 5 rfl (y_load1 ld_41 rfl m0 rfl) ?_
  refine dN 6 rfl rfl ?_
  refine dV 7 rfl (y_fieldAddr fo_43_1 rfl) ?_
  refine d_ready (i := 8) (rs := []) (by kernel_rfl) (.cons .here .nil) (all_one ?_)
  refine o_does rfl rfl rfl (g_store1 sz_41 rfl rfl rfl rfl rfl rfl (.there (.there .here))) ?_
  intro _ _
  refine dN 9 rfl rfl ?_
  refine dV 10 rfl (y_fieldAddr fo_43_2 rfl) ?_
  refine d_ready (i := 11) (rs := []) (by kernel_rfl) (.cons .here .nil) (all_one ?_)
  refine o_does rfl rfl rfl (g_store1 sz_41 rfl rfl rfl rfl rfl rfl (.there (.there .here))) ?_
  intro _ _
  refine d_end (by kernel_rfl) (.cons .here .nil) ?_
  exact q_cut () trivial ⟨rfl, rfl, rfl, rfl, rfl, trivial⟩ (.cons (.there .here) (.cons (.there .here) (.skip .refl)))
 intro _ _
 refine q_block ?_
 refine qG ?_
 refine lV (y_bin rfl rfl rfl (fitN (m := 1) (by omega) (by omega))) ?_
 refine lM rfl ?_
 refine l_nil ?_
 refine q_unroll ?_
 refine c_unroll ?_
 refine cR ?_
 refine lB rfl rfl rfl rfl ?_
 refine nQ ?_
 refine c_seq ?_
 refine c_false rfl rfl ?_
 refine c_exit ?_
 refine q_then_exit ?_
 refine q_then_exit ?_
 refine q_block_exit ?_
 refine q_then ?_
 refine c_draw [] mixed rfl ?_
 refine dM 0 rfl rfl ?_
 refine dM 1 rfl rfl ?_
 refine dN 2 rfl rfl ?_
 refine dV 3 rfl (y_fieldAddr fo_43_0 rfl) ?_
 refine d_ready (i := 4) (rs := [5]) (by kernel_rfl) .nil (all_cons ?_ (all_one ?_))
 ·refine o_gives rfl rfl rfl (gy (y_load1 ld_25 rfl m1 rfl)) rfl ?_
  intro _ _
  refine d_ready (i := 5) (rs := []) (by kernel_rfl) .nil (all_one ?_)
  refine o_gives rfl rfl rfl (gy (y_loadN (vs := [_, _, _, _, _, _, _]) ld_34 rfl m0 rfl rfl)) rfl ?_
  intro _ _
  refine d_ready (i := 6) (rs := []) (by kernel_rfl) .nil (all_one ?_)
  refine o_gives rfl rfl rfl (g_buildSlice (cs := Stk.cells (stk1 op x0 y0) ++ []) sl_25 sz_34 ze_34 rfl rfl rfl rfl (by simp [Value.cells]) rfl rfl) rfl ?_
  intro b49 hb49
  refine d_ready (i := 7) (rs := []) (by kernel_rfl) .nil (all_one ?_)
  refine o_gives rfl rfl rfl (g_appendT (by_ := 32) (news := Stk.cells (stk1 op x0 y0)) (sy := []) ([_, _, _]) sl_25 inf_34 rfl rfl rfl rfl (by decide) rfl rfl hok (by rfl) m0 rfl (Stk.one _) (by unfold maxLen; omega) (by omega)) rfl ?_
  intro so2 hok2
  rw [encS_snoc] at hok2 ⊢
  have e2 : out.length + 1 = (out ++ [(stk1 op x0 y0)]).length := by simp
  rw [e2] at hok2 ⊢
  refine dN 8 rfl rfl ?_
  refine dV 9 rfl (y_fieldAddr fo_43_0 rfl) ?_
  refine d_ready (i := 10) (rs := []) (by kernel_rfl) .nil (all_one ?_)
  refine o_does rfl rfl rfl (g_store1 (cs' := _ :: _ :: _) sz_25 rfl rfl (slV_cells _ _) rfl (slV_one _ _) rfl (.there (.there .here))) ?_
  intro _ _
  refine d_end (by kernel_rfl) .nil ?_
  exact body_ret (rs := []) rfl (vs := []) trivial (out_end so2 hok2 rfl (.cons (.there (.there .here)) (.skip (.skip .refl)))) _ (.inl rfl)
 ·refine o_gives rfl rfl rfl (gy (y_loadN (vs := [_, _, _, _, _, _, _]) ld_34 rfl m0 rfl rfl)) rfl ?_
  intro _ _
  refine d_ready (i := 4) (rs := [6]) (by kernel_rfl) .nil (all_cons ?_ (all_one ?_))
  ·refine o_gives rfl rfl rfl (gy (y_load1 ld_25 rfl m1 rfl)) rfl ?_
   intro _ _
   refine d_ready (i := 6) (rs := []) (by kernel_rfl) .nil (all_one ?_)
   refine o_gives rfl rfl rfl (g_buildSlice (cs := Stk.cells (stk1 op x0 y0) ++ []) sl_25 sz_34 ze_34 rfl rfl rfl rfl (by simp [Value.cells]) rfl rfl) rfl ?_
   intro b49 hb49
   refine d_ready (i := 7) (rs := []) (by kernel_rfl) .nil (all_one ?_)
   refine o_gives rfl rfl rfl (g_appendT (by_ := 32) (news := Stk.cells (stk1 op x0 y0)) (sy := []) ([_, _, _]) sl_25 inf_34 rfl rfl rfl rfl (by decide) rfl rfl hok (by rfl) m0 rfl (Stk.one _) (by unfold maxLen; omega) (by omega)) rfl ?_
   intro so2 hok2
   rw [encS_snoc] at hok2 ⊢
   have e2 : out.length + 1 = (out ++ [(stk1 op x0 y0)]).length := by simp
   rw [e2] at hok2 ⊢
   refine dN 8 rfl rfl ?_
   refine dV 9 rfl (y_fieldAddr fo_43_0 rfl) ?_
   refine d_ready (i := 10) (rs := []) (by kernel_rfl) .nil (all_one ?_)
   refine o_does rfl rfl rfl (g_store1 (cs' := _ :: _ :: _) sz_25 rfl rfl (slV_cells _ _) rfl (slV_one _ _) rfl (.there (.there .here))) ?_
   intro _ _
   refine d_end (by kernel_rfl) .nil ?_
   exact body_ret (rs := []) rfl (vs := []) trivial (out_end so2 hok2 rfl (.cons (.there (.there .here)) (.skip (.skip .refl)))) _ (.inl rfl)
  ·refine o_gives rfl rfl rfl (g_buildSlice (cs := Stk.cells (stk1 op x0 y0) ++ []) sl_25 sz_34 ze_34 rfl rfl rfl rfl (by simp [Value.cells]) rfl rfl) rfl ?_
   intro b49 hb49
   refine d_ready (i := 4) (rs := []) (by kernel_rfl) .nil (all_one ?_)
   refine o_gives rfl rfl rfl (gy (y_load1 ld_25 rfl m2 rfl)) rfl ?_
   intro _ _
   refine d_ready (i := 7) (rs := []) (by kernel_rfl) .nil (all_one ?_)
   refine o_gives rfl rfl rfl (g_appendT (by_ := 32) (news := Stk.cells (stk1 op x0 y0)) (sy := []) ([_, _, _]) sl_25 inf_34 rfl rfl rfl rfl (by decide) rfl rfl hok (by rfl) m0 rfl (Stk.one _) (by unfold maxLen; omega) (by omega)) rfl ?_
   intro so2 hok2
   rw [encS_snoc] at hok2 ⊢
   have e2 : out.length + 1 = (out ++ [(stk1 op x0 y0)]).length := by simp
   rw [e2] at hok2 ⊢
   refine dN 8 rfl rfl ?_
   refine dV 9 rfl (y_fieldAddr fo_43_0 rfl) ?_
   refine d_ready (i := 10) (rs := []) (by kernel_rfl) .nil (all_one ?_)
   refine o_does rfl rfl rfl (g_store1 (cs' := _ :: _ :: _) sz_25 rfl rfl (slV_cells _ _) rfl (slV_one _ _) rfl (.there (.there .here))) ?_
   intro _ _
   refine d_end (by kernel_rfl) .nil ?_
   exact body_ret (rs := []) rfl (vs := []) trivial (out_end so2 hok2 rfl (.cons (.there (.there .here)) (.skip (.skip .refl)))) _ (.inl rfl)
set_option maxHeartbeats 2000000 in
theorem f28_3 (w : World) (bC cl : Nat) (op x y fx fy : Int) (o : Bool) (out : List Stk) (so : Sv) (rest : List Value) (A : Option Addr) (x0 y0 x1 y1 x2 y2 : Int) (hx0 : x0.natAbs < 2 ^ 53) (hy0 : y0.natAbs < 2 ^ 53) (hx1 : x1.natAbs < 2 ^ 53) (hy1 : y1.natAbs < 2 ^ 53) (hx2 : x2.natAbs < 2 ^ 53) (hy2 : y2.natAbs < 2 ^ 53) (hok : slOk so out.length 7 (encS out)) (hlen : out.length ≤ 100000) (hR : RdP w (((bC, slV so out.length :: .float .f64 (F x) :: .float .f64 (F y) :: .bool o :: .float .f64 (F fx) :: .float .f64 (F fy) :: rest, 46) :: slH so (encS out) 34).map (·.1)) A [(x0, y0), (x1, y1), (x2, y2)]) (hw : Hp w (((bC, slV so out.length :: .float .f64 (F x) :: .float .f64 (F y) :: .bool o :: .float .f64 (F fx) :: .float .f64 (F fy) :: rest, 46) :: slH so (encS out) 34).map (·.1)) ((bC, slV so out.length :: .float .f64 (F x) :: .float .f64 (F y) :: .bool o :: .float .f64 (F fx) :: .float .f64 (F fy) :: rest, 46) :: slH so (encS out) 34) w) : Calls Tryz.prog 28 [.pointer (some ⟨bC, 0, none⟩), .int .i64 op, .slice A 3 cl].toArray w (Out w (((bC, slV so out.length :: .float .f64 (F x) :: .float .f64 (F y) :: .bool o :: .float .f64 (F fx) :: .float .f64 (F fy) :: rest, 46) :: slH so (encS out) 34).map (·.1)) (fun z : Sv => slOk z (out ++ [(stk3 op x0 y0 x1 y1 x2 y2)]).length 7 (encS (out ++ [(stk3 op x0 y0 x1 y1 x2 y2)]))) (fun z => .tuple #[]) (fun z => (bC, slV z (out ++ [(stk3 op x0 y0 x1 y1 x2 y2)]).length :: .float .f64 (F x2) :: .float .f64 (F y2) :: .bool o :: .float .f64 (F fx) :: .float .f64 (F fy) :: rest, 46) :: slH z (encS (out ++ [(stk3 op x0 y0 x1 y1 x2 y2)])) 34)) := by
 obtain ⟨p, rfl, hpb, hpS, hpc⟩ := hR
 refine enter (n := 53) Tryz.func28 rfl rfl rfl hw ?_
 refine cR ?_
 refine lM rfl ?_
 refine lV (y_build1 (out := [_, _, _, _, _, _, _]) bp_34 rfl rfl rfl) ?_
 refine l_gives rfl rfl (g_alloc ze_34) rfl ?_
 intro b6 hb6
 refine l_does rfl rfl (g_storeN (vs := [_, _, _, _, _, _, _]) (cs' := [_, _, _, _, _, _, _]) sz_34 rfl rfl rfl rfl rfl rfl rfl .here) ?_
 intro _ _
 refine nQ ?_
 refine c_seq ?_
 refine cR ?_
 refine lM rfl ?_
 refine lV (y_len sl_118 rfl) ?_
 refine lM rfl ?_
 refine nQ ?_
 refine c_block ?_
 refine c_loopU ?_
 refine c_unroll ?_
 refine cR ?_
 refine lB rfl rfl rfl rfl ?_
 refine nQ ?_
 refine c_seq ?_
 refine c_true rfl rfl ?_
 refine kQ ?_
 refine c_seq ?_
 refine c_block ?_
 refine cR ?_
 refine lM rfl ?_
 refine lV (y_indexAddr (j := 0) es_118 rfl rfl (by decide)) ?_
 refine lV (y_oldLoadN (vs := [.float .f64 (F x0), .float .f64 (F y0)]) ld_106 rfl (by rw [block_add]; exact hpb) (by rw [block_add]; exact hpS) rfl (RdP.row hpc (i := 0) rfl)) ?_
 refine l_gives rfl rfl (g_alloc ze_106) rfl ?_
 intro b8 hb8
 refine lA rfl ?_
 refine l_does rfl rfl (g_storeN (vs := [_, _]) (cs' := [_, _]) sz_106 rfl rfl rfl rfl rfl rfl rfl .here) ?_
 intro _ _
 refine nR ?_
 refine lM rfl ?_
 refine lM rfl ?_
 refine lV (y_indexArr (j := 0) ar_106 rfl rfl rfl) ?_
 refine lV (y_load1 ld_41 rfl m0 rfl) ?_
 refine lV (y_indexArr (j := 1) ar_106 rfl rfl rfl) ?_
 refine lV (y_load1 ld_41 rfl m0 rfl) ?_
 refine l_call ok_34 rfl rfl (fun w1 hw1 => out_plain hw1 (f34_any w1 x0 y0 hx0 hy0)) ?_
 intro _ _
 refine lM rfl ?_
 refine lV (y_extract rfl rfl) ?_
 refine lV (y_extract rfl rfl) ?_
 refine lV (y_fieldAddr fo_34_1 rfl) ?_
 refine lV (y_indexArr (j := 0) ar_32 rfl rfl rfl) ?_
 refine l_does rfl rfl (g_store1 (cs' := [_, _, _, _, _, _, _]) sz_28 rfl rfl rfl rfl rfl rfl (.there .here)) ?_
 intro _ _
 refine lV (y_fieldAddr fo_34_2 rfl) ?_
 refine lV (y_indexArr (j := 0) ar_32 rfl rfl rfl) ?_
 refine l_does rfl rfl (g_store1 (cs' := [_, _, _, _, _, _, _]) sz_28 rfl rfl rfl rfl rfl rfl (.there .here)) ?_
 intro _ _
 refine nQ ?_
 refine c_cut (ι := Unit) (φ := fun _ => True) (L' := fun _ => [(0, .pointer (some ⟨bC, 0, none⟩)), (6, .pointer (some ⟨b6, 0, none⟩)), (11, .slice (some p) 3 cl), (12, .int .i64 3), (13, .int .i64 0)]) (H' := fun _ => (b6, [.int .i64 op, .float .f32 (G x0), .float .f32 0, .float .f32 0, .float .f32 (G y0), .float .f32 0, .float .f32 0], 34) :: (bC, slV so out.length :: .float .f64 (F x0) :: .float .f64 (F y0) :: .bool o :: .float .f64 (F fx) :: .float .f64 (F fy) :: rest, 46) :: slH so (encS out) 34) ?_ ?_
 ·refine c_draw [(b8, [.float .f64 (F x0), .float .f64 (F y0)], 106)] mixed rfl ?_
  refine dM 0 rfl rfl ?_
  refine dM 1 rfl rfl ?_
  refine dV 2 rfl (y_indexArr (j := 0) ar_106 rfl rfl rfl) ?_
  refine dV 3 rfl (y_load1 ld_41 rfl m0 rfl) ?_
  refine dV 4 rfl (y_indexArr (j := 1) ar_106 rfl rfl rfl) ?_
  refine dV 5 rfl (y_load1 ld_41 rfl m0 rfl) ?_
  refine dN 6 rfl rfl ?_
  refine dV 7 rfl (y_fieldAddr fo_43_1 rfl) ?_
  refine d_ready (i := 8) (rs := []) (by kernel_rfl) (.cons .here .nil) (all_one ?_)
  refine o_does rfl rfl rfl (g_store1 sz_41 rfl rfl rfl rfl rfl rfl (.there (.there .here))) ?_
  intro _ _
  refine dN 9 rfl rfl ?_
  refine dV 10 rfl (y_fieldAddr fo_43_2 rfl) ?_
  refine d_ready (i := 11) (rs := []) (by kernel_rfl) (.cons .here .nil) (all_one ?_)
  refine o_does rfl rfl rfl (g_store1 sz_41 rfl rfl rfl rfl rfl rfl (.there (.there .here))) ?_
  intro _ _
  refine d_end (by kernel_rfl) (.cons .here .nil) ?_
  exact q_cut () trivial ⟨rfl, rfl, rfl, rfl, rfl, trivial⟩ (.cons (.there .here) (.cons (.there .here) (.skip .refl)))
 intro _ _
 refine q_block ?_
 refine qG ?_
 refine lV (y_bin rfl rfl rfl (fitN (m := 1) (by omega) (by omega))) ?_
 refine lM rfl ?_
 refine l_nil ?_
 refine q_unroll ?_
 refine c_unroll ?_
 refine cR ?_
 refine lB rfl rfl rfl rfl ?_
 refine nQ ?_
 refine c_seq ?_
 refine c_true rfl rfl ?_
 refine kQ ?_
 refine c_seq ?_
 refine c_block ?_
 refine cR ?_
 refine lM rfl ?_
 refine lV (y_indexAddr (j := 1) es_118 rfl rfl (by decide)) ?_
 refine lV (y_oldLoadN (vs := [.float .f64 (F x1), .float .f64 (F y1)]) ld_106 rfl (by rw [block_add]; exact hpb) (by rw [block_add]; exact hpS) rfl (RdP.row hpc (i := 1) rfl)) ?_
 refine l_gives rfl rfl (g_alloc ze_106) rfl ?_
 intro b8 hb8
 refine lA rfl ?_
 refine l_does rfl rfl (g_storeN (vs := [_, _]) (cs' := [_, _]) sz_106 rfl rfl rfl rfl rfl rfl rfl .here) ?_
 intro _ _
 refine nR ?_
 refine lM rfl ?_
 refine lM rfl ?_
 refine lV (y_indexArr (j := 0) ar_106 rfl rfl rfl) ?_
 refine lV (y_load1 ld_41 rfl m0 rfl) ?_
 refine lV (y_indexArr (j := 1) ar_106 rfl rfl rfl) ?_
 refine lV (y_load1 ld_41 rfl m0 rfl) ?_
 refine l_call ok_34 rfl rfl (fun w1 hw1 => out_plain hw1 (f34_any w1 x1 y1 hx1 hy1)) ?_
 intro _ _
 refine lM rfl ?_
 refine lV (y_extract rfl rfl) ?_
 refine lV (y_extract rfl rfl) ?_
 refine lV (y_fieldAddr fo_34_1 rfl) ?_
 refine lV (y_indexArr (j := 1) ar_32 rfl rfl rfl) ?_
 refine l_does rfl rfl (g_store1 (cs' := [_, _, _, _, _, _, _]) sz_28 rfl rfl rfl rfl rfl rfl (.there .here)) ?_
 intro _ _
 refine lV (y_fieldAddr fo_34_2 rfl) ?_
 refine lV (y_indexArr (j := 1) ar_32 rfl rfl rfl) ?_
 refine l_does rfl rfl (g_store1 (cs' := [_, _, _, _, _, _, _]) sz_28 rfl rfl rfl rfl rfl rfl (.there .here)) ?_
 intro _ _
 refine nQ ?_
 refine c_cut (ι := Unit) (φ := fun _ => True) (L' := fun _ => [(0, .pointer (some ⟨bC, 0, none⟩)), (6, .pointer (some ⟨b6, 0, none⟩)), (11, .slice (some p) 3 cl), (12, .int .i64 3), (13, .int .i64 1)]) (H' := fun _ => (b6, [.int .i64 op, .float .f32 (G x0), .float .f32 (G x1), .float .f32 0, .float .f32 (G y0), .float .f32 (G y1), .float .f32 0], 34) :: (bC, slV so out.length :: .float .f64 (F x1) :: .float .f64 (F y1) :: .bool o :: .float .f64 (F fx) :: .float .f64 (F fy) :: rest, 46) :: slH so (encS out) 34) ?_ ?_
 ·refine c_draw [(b8, [.float .f64 (F x1), .float .f64 (F y1)], 106)] mixed rfl ?_
  refine dM 0 rfl rfl ?_
  refine dM 1 rfl rfl ?_
  refine dV 2 rfl (y_indexArr (j := 0) ar_106 rfl rfl rfl) ?_
  refine dV 3 rfl (y_load1 ld_41 rfl m0 rfl) ?_
  refine dV 4 rfl (y_indexArr (j := 1) ar_106 rfl rfl rfl) ?_
  refine dV 5 rfl (y_load1 ld_41 rfl m0 rfl) ?_
  refine dN 6 rfl rfl ?_
  refine dV 7 rfl (y_fieldAddr fo_43_1 rfl) ?_
  refine d_ready (i := 8) (rs := []) (by kernel_rfl) (.cons .here .nil) (all_one ?_)
  refine o_does rfl rfl rfl (g_store1 sz_41 rfl rfl rfl rfl rfl rfl (.there (.there .here))) ?_
  intro _ _
  refine dN 9 rfl rfl ?_
  refine dV 10 rfl (y_fieldAddr fo_43_2 rfl) ?_
  refine d_ready (i := 11) (rs := []) (by kernel_rfl) (.cons .here .nil) (all_one ?_)
  refine o_does rfl rfl rfl (g_store1 sz_41 rfl rfl rfl rfl rfl rfl (.there (.there .here))) ?_
  intro _ _
  refine d_end (by kernel_rfl) (.cons .here .nil) ?_
  exact q_cut () trivial ⟨rfl, rfl, rfl, rfl, rfl, trivial⟩ (.cons (.there .here) (.cons (.there .here) (.skip .refl)))
 intro _ _
 refine q_block ?_
 refine qG ?_
 refine lV (y_bin rfl rfl rfl (fitN (m := 2) (by omega) (by omega))) ?_
 refine lM rfl ?_
 refine l_nil ?_
 refine q_unroll ?_
 refine c_unroll ?_
 refine cR ?_
 refine lB rfl rfl rfl rfl ?_
 refine nQ ?_
 refine c_seq ?_
 refine c_true rfl rfl ?_
 refine kQ ?_
 refine c_seq ?_
 refine c_block ?_
 refine cR ?_
 refine lM rfl ?_
 refine lV (y_indexAddr (j := 2) es_118 rfl rfl (by decide)) ?_
 refine lV (y_oldLoadN (vs := [.float .f64 (F x2), .float .f64 (F y2)]) ld_106 rfl (by rw [block_add]; exact hpb) (by rw [block_add]; exact hpS) rfl (RdP.row hpc (i := 2) rfl)) ?_
 refine l_gives rfl rfl (g_alloc ze_106) rfl ?_
 intro b8 hb8
 refine lA rfl ?_
 refine l_does rfl rfl (g_storeN (vs := [_, _]) (cs' := [_, _]) sz_106 rfl rfl rfl rfl rfl rfl rfl .here) ?_
 intro _ _
 refine nR ?_
 refine lM rfl ?_
 refine lM rfl ?_
 refine lV (y_indexArr (j := 0) ar_106 rfl rfl rfl) ?_
 refine lV (y_load1 ld_41 rfl m0 rfl) ?_
 refine lV (y_indexArr (j := 1) ar_106 rfl rfl rfl) ?_
 refine lV (y_load1 ld_41 rfl m0 rfl) ?_
 refine l_call ok_34 rfl rfl (fun w1 hw1 => out_plain hw1 (f34_any w1 x2 y2 hx2 hy2)) ?_
 intro _ _
 refine lM rfl ?_
 refine lV (y_extract rfl rfl) ?_
 refine lV (y_extract rfl rfl) ?_
 refine lV (y_fieldAddr fo_34_1 rfl) ?_
 refine lV (y_indexArr (j := 2) ar_32 rfl rfl rfl) ?_
 refine l_does rfl rfl (g_store1 (cs' := [_, _, _, _, _, _, _]) sz_28 rfl rfl rfl rfl rfl rfl (.there .here)) ?_
 intro _ _
 refine lV (y_fieldAddr fo_34_2 rfl) ?_
 refine lV (y_indexArr (j := 2) ar_32 rfl rfl rfl) ?_
 refine l_does rfl rfl (g_store1 (cs' := [_, _, _, _, _, _, _]) sz_28 rfl rfl rfl rfl rfl rfl (.there .here)) ?_
 intro _ _
 refine nQ ?_
 refine c_cut (ι := Unit) (φ := fun _ => True) (L' := fun _ => [(0, .pointer (some ⟨bC, 0, none⟩)), (6, .pointer (some ⟨b6, 0, none⟩)), (11, .slice (some p) 3 cl), (12, .int .i64 3), (13, .int .i64 2)]) (H' := fun _ => (b6, [.int .i64 op, .float .f32 (G x0), .float .f32 (G x1), .float .f32 (G x2), .float .f32 (G y0), .float .f32 (G y1), .float .f32 (G y2)], 34) :: (bC, slV so out.length :: .float .f64 (F x2) :: .float .f64 (F y2) :: .bool o :: .float .f64 (F fx) :: .float .f64 (F fy) :: rest, 46) :: slH so (encS out) 34) ?_ ?_
 ·refine c_draw [(b8, [.float .f64 (F x2), .float .f64 (F y2)], 106)] mixed rfl ?_
  refine dM 0 rfl rfl ?_
  refine dM 1 rfl rfl ?_
  refine dV 2 rfl (y_indexArr (j := 0) ar_106 rfl rfl rfl) ?_
  refine dV 3 rfl (y_load1 ld_41 rfl m0 rfl) ?_
  refine dV 4 rfl (y_indexArr (j := 1) ar_106 rfl rfl rfl) ?_
  refine dV 5 rfl (y_load1 ld_41 rfl m0 rfl) ?_
  refine dN 6 rfl rfl ?_
  refine dV 7 rfl (y_fieldAddr fo_43_1 rfl) ?_
  refine d_ready (i := 8) (rs := []) (by kernel_rfl) (.cons .here .nil) (all_one ?_)
  refine o_does rfl rfl rfl (g_store1 sz_41 rfl rfl rfl rfl rfl rfl (.there (.there .here))) ?_
  intro _ _
  refine dN 9 rfl rfl ?_
  refine dV 10 rfl (y_fieldAddr fo_43_2 rfl) ?_
  refine d_ready (i := 11) (rs := []) (by kernel_rfl) (.cons .here .nil) (all_one ?_)
  refine o_does rfl rfl rfl (g_store1 sz_41 rfl rfl rfl rfl rfl rfl (.there (.there .here))) ?_
  intro _ _
  refine d_end (by kernel_rfl) (.cons .here .nil) ?_
  exact q_cut () trivial ⟨rfl, rfl, rfl, rfl, rfl, trivial⟩ (.cons (.there .here) (.cons (.there .here) (.skip .refl)))
 intro _ _
 refine q_block ?_
 refine qG ?_
 refine lV (y_bin rfl rfl rfl (fitN (m := 3) (by omega) (by omega))) ?_
 refine lM rfl ?_
 refine l_nil ?_
 refine q_unroll ?_
 refine c_unroll ?_
 refine cR ?_
 refine lB rfl rfl rfl rfl ?_
 refine nQ ?_
 refine c_seq ?_
 refine c_false rfl rfl ?_
 refine c_exit ?_
 refine q_then_exit ?_
 refine q_then_exit ?_
 refine q_block_exit ?_
 refine q_then ?_
 refine c_draw [] mixed rfl ?_
 refine dM 0 rfl rfl ?_
 refine dM 1 rfl rfl ?_
 refine dN 2 rfl rfl ?_
 refine dV 3 rfl (y_fieldAddr fo_43_0 rfl) ?_
 refine d_ready (i := 4) (rs := [5]) (by kernel_rfl) .nil (all_cons ?_ (all_one ?_))
 ·refine o_gives rfl rfl rfl (gy (y_load1 ld_25 rfl m1 rfl)) rfl ?_
  intro _ _
  refine d_ready (i := 5) (rs := []) (by kernel_rfl) .nil (all_one ?_)
  refine o_gives rfl rfl rfl (gy (y_loadN (vs := [_, _, _, _, _, _, _]) ld_34 rfl m0 rfl rfl)) rfl ?_
  intro _ _
  refine d_ready (i := 6) (rs := []) (by kernel_rfl) .nil (all_one ?_)
  refine o_gives rfl rfl rfl (g_buildSlice (cs := Stk.cells (stk3 op x0 y0 x1 y1 x2 y2) ++ []) sl_25 sz_34 ze_34 rfl rfl rfl rfl (by simp [Value.cells]) rfl rfl) rfl ?_
  intro b49 hb49
  refine d_ready (i := 7) (rs := []) (by kernel_rfl) .nil (all_one ?_)
  refine o_gives rfl rfl rfl (g_appendT (by_ := 32) (news := Stk.cells (stk3 op x0 y0 x1 y1 x2 y2)) (sy := []) ([_, _, _]) sl_25 inf_34 rfl rfl rfl rfl (by decide) rfl rfl hok (by rfl) m0 rfl (Stk.one _) (by unfold maxLen; omega) (by omega)) rfl ?_
  intro so2 hok2
  rw [encS_snoc] at hok2 ⊢
  have e2 : out.length + 1 = (out ++ [(stk3 op x0 y0 x1 y1 x2 y2)]).length := by simp
  rw [e2] at hok2 ⊢
  refine dN 8 rfl rfl ?_
  refine dV 9 rfl (y_fieldAddr fo_43_0 rfl) ?_
  refine d_ready (i := 10) (rs := []) (by kernel_rfl) .nil (all_one ?_)
  refine o_does rfl rfl rfl (g_store1 (cs' := _ :: _ :: _) sz_25 rfl rfl (slV_cells _ _) rfl (slV_one _ _) rfl (.there (.there .here))) ?_
  intro _ _
  refine d_end (by kernel_rfl) .nil ?_
  exact body_ret (rs := []) rfl (vs := []) trivial (out_end so2 hok2 rfl (.cons (.there (.there .here)) (.skip (.skip .refl)))) _ (.inl rfl)
 ·refine o_gives rfl rfl rfl (gy (y_loadN (vs := [_, _, _, _, _, _, _]) ld_34 rfl m0 rfl rfl)) rfl ?_
  intro _ _
  refine d_ready (i := 4) (rs := [6]) (by kernel_rfl) .nil (all_cons ?_ (all_one ?_))
  ·refine o_gives rfl rfl rfl (gy (y_load1 ld_25 rfl m1 rfl)) rfl ?_
   intro _ _
   refine d_ready (i := 6) (rs := []) (by kernel_rfl) .nil (all_one ?_)
   refine o_gives rfl rfl rfl (g_buildSlice (cs := Stk.cells (stk3 op x0 y0 x1 y1 x2 y2) ++ []) sl_25 sz_34 ze_34 rfl rfl rfl rfl (by simp [Value.cells]) rfl rfl) rfl ?_
   intro b49 hb49
   refine d_ready (i := 7) (rs := []) (by kernel_rfl) .nil (all_one ?_)
   refine o_gives rfl rfl rfl (g_appendT (by_ := 32) (news := Stk.cells (stk3 op x0 y0 x1 y1 x2 y2)) (sy := []) ([_, _, _]) sl_25 inf_34 rfl rfl rfl rfl (by decide) rfl rfl hok (by rfl) m0 rfl (Stk.one _) (by unfold maxLen; omega) (by omega)) rfl ?_
   intro so2 hok2
   rw [encS_snoc] at hok2 ⊢
   have e2 : out.length + 1 = (out ++ [(stk3 op x0 y0 x1 y1 x2 y2)]).length := by simp
   rw [e2] at hok2 ⊢
   refine dN 8 rfl rfl ?_
   refine dV 9 rfl (y_fieldAddr fo_43_0 rfl) ?_
   refine d_ready (i := 10) (rs := []) (by kernel_rfl) .nil (all_one ?_)
   refine o_does rfl rfl rfl (g_store1 (cs' := _ :: _ :: _) sz_25 rfl rfl (slV_cells _ _) rfl (slV_one _ _) rfl (.there (.there .here))) ?_
   intro _ _
   refine d_end (by kernel_rfl) .nil ?_
   exact body_ret (rs := []) rfl (vs := []) trivial (out_end so2 hok2 rfl (.cons (.there (.there .here)) (.skip (.skip .refl)))) _ (.inl rfl)
  ·refine o_gives rfl rfl rfl (g_buildSlice (cs := Stk.cells (stk3 op x0 y0 x1 y1 x2 y2) ++ []) sl_25 sz_34 ze_34 rfl rfl rfl rfl (by simp [Value.cells]) rfl rfl) rfl ?_
   intro b49 hb49
   refine d_ready (i := 4) (rs := []) (by kernel_rfl) .nil (all_one ?_)
   refine o_gives rfl rfl rfl (gy (y_load1 ld_25 rfl m2 rfl)) rfl ?_
   intro _ _
   refine d_ready (i := 7) (rs := []) (by kernel_rfl) .nil (all_one ?_)
   refine o_gives rfl rfl rfl (g_appendT (by_ := 32) (news := Stk.cells (stk3 op x0 y0 x1 y1 x2 y2)) (sy := []) ([_, _, _]) sl_25 inf_34 rfl rfl rfl rfl (by decide) rfl rfl hok (by rfl) m0 rfl (Stk.one _) (by unfold maxLen; omega) (by omega)) rfl ?_
   intro so2 hok2
   rw [encS_snoc] at hok2 ⊢
   have e2 : out.length + 1 = (out ++ [(stk3 op x0 y0 x1 y1 x2 y2)]).length := by simp
   rw [e2] at hok2 ⊢
   refine dN 8 rfl rfl ?_
   refine dV 9 rfl (y_fieldAddr fo_43_0 rfl) ?_
   refine d_ready (i := 10) (rs := []) (by kernel_rfl) .nil (all_one ?_)
   refine o_does rfl rfl rfl (g_store1 (cs' := _ :: _ :: _) sz_25 rfl rfl (slV_cells _ _) rfl (slV_one _ _) rfl (.there (.there .here))) ?_
   intro _ _
   refine d_end (by kernel_rfl) .nil ?_
   exact body_ret (rs := []) rfl (vs := []) trivial (out_end so2 hok2 rfl (.cons (.there (.there .here)) (.skip (.skip .refl)))) _ (.inl rfl)
theorem out_tail {P : Program} {w0 : World} {S : List Nat} {f : Nat} {args : Array Value} {ι : Type} {φ : ι → Prop} {vv : ι → Value} {A H1 : Heap} {H2 : ι → Heap}
    (hc : ∀ w, Hp w0 S (A ++ H1) w → Hp w (H1.map (·.1)) H1 w → Calls P f args w (Out w (H1.map (·.1)) φ vv H2)) : ∀ w, Hp w0 S (A ++ H1) w → Calls P f args w (Out w0 S φ vv (fun x => A ++ H2 x)) := by
  intro w hw
  have hp : (A ++ H1).Perm (H1 ++ A) := List.perm_append_comm
  exact (out_frame hw hp (hc w hw (hw.perm hp).self)).mono fun e w' ⟨x, hx, he, hH⟩ => ⟨x, hx, he, hH.perm List.perm_append_comm⟩
theorem not_ids {w0 w : World} {S : List Nat} {b : Nat} {cs : List Value} {e : TypeId} {H1 : Heap} (h : Hp w0 S ((b, cs, e) :: H1) w) : b ∉ H1.map (·.1) := by
  intro hm
  obtain ⟨x, hx, hxe⟩ := List.mem_map.1 hm
  exact (List.pairwise_cons.1 h.nd).1 x hx hxe.symm
theorem RdP_own1 {w0 w : World} {S : List Nat} {b : Nat} {x y : Int} {sp : List Value} {e : TypeId} {H1 : Heap} (h : Hp w0 S ((b, .float .f64 (F x) :: .float .f64 (F y) :: sp, e) :: H1) w) : RdP w (H1.map (·.1)) (some ⟨b, 0, none⟩) [(x, y)] := by
  refine ⟨_, rfl, h.lt (.head _), not_ids h, fun i q hq => ?_⟩
  have hi : i = 0 := by have := (List.getElem?_eq_some_iff.1 hq).1; simp at this; exact this
  subst hi
  simp at hq
  subst hq
  refine ⟨?_, ?_⟩
  · rw [Addr.add_lit, h.cell (.head _)]; rfl
  · rw [Addr.add_lit, h.cell (.head _)]; rfl
set_option maxHeartbeats 2000000 in
theorem f30_any (w : World) (bC : Nat) (x y fx fy dx dy : Int) (i j : Nat) (o : Bool) (out : List Stk) (so : Sv) (rest : List Value) (hx0 : x.natAbs < 2 ^ 53) (hy0 : y.natAbs < 2 ^ 53) (hi : RF i dx) (hj : RF j dy) (hx1 : (x + dx).natAbs < 2 ^ 53) (hy1 : (y + dy).natAbs < 2 ^ 53) (hok : slOk so out.length 7 (encS out)) (hlen : out.length ≤ 100000) (hw : Hp w (((bC, slV so out.length :: .float .f64 (F x) :: .float .f64 (F y) :: .bool o :: .float .f64 (F fx) :: .float .f64 (F fy) :: rest, 46) :: slH so (encS out) 34).map (·.1)) ((bC, slV so out.length :: .float .f64 (F x) :: .float .f64 (F y) :: .bool o :: .float .f64 (F fx) :: .float .f64 (F fy) :: rest, 46) :: slH so (encS out) 34) w) : Calls Tryz.prog 30 [.pointer (some ⟨bC, 0, none⟩), .float .f64 i, .float .f64 j].toArray w (Out w (((bC, slV so out.length :: .float .f64 (F x) :: .float .f64 (F y) :: .bool o :: .float .f64 (F fx) :: .float .f64 (F fy) :: rest, 46) :: slH so (encS out) 34).map (·.1)) (fun z : Sv => slOk z (out ++ [(stk1 1 (x + dx) (y + dy))]).length 7 (encS (out ++ [(stk1 1 (x + dx) (y + dy))]))) (fun z => .tuple #[]) (fun z => (bC, slV z (out ++ [(stk1 1 (x + dx) (y + dy))]).length :: .float .f64 (F (x + dx)) :: .float .f64 (F (y + dy)) :: .bool o :: .float .f64 (F fx) :: .float .f64 (F fy) :: rest, 46) :: slH z (encS (out ++ [(stk1 1 (x + dx) (y + dy))])) 34)) := by
 refine enter (n := 22) Tryz.func30 rfl rfl rfl hw ?_
 refine c_draw [] mixed rfl ?_
 refine dM 0 rfl rfl ?_
 refine dM 1 rfl rfl ?_
 refine dN 2 rfl rfl ?_
 refine dV 3 rfl (y_fieldAddr fo_43_1 rfl) ?_
 refine dM 5 rfl rfl ?_
 refine dM 7 rfl rfl ?_
 refine dN 8 rfl rfl ?_
 refine dV 9 rfl (y_fieldAddr fo_43_2 rfl) ?_
 refine dM 11 rfl rfl ?_
 refine d_ready (i := 4) (rs := [10]) (by kernel_rfl) .nil (all_cons ?_ (all_one ?_))
 ·refine o_gives rfl rfl rfl (gy (y_load1 ld_41 rfl m0 rfl)) rfl ?_
  intro _ _
  refine dV 6 rfl (y_fadd rfl rfl hx0 hi hx1) ?_
  refine d_ready (i := 10) (rs := []) (by kernel_rfl) .nil (all_one ?_)
  refine o_gives rfl rfl rfl (gy (y_load1 ld_41 rfl m0 rfl)) rfl ?_
  intro _ _
  refine dV 12 rfl (y_fadd rfl rfl hy0 hj hy1) ?_
  refine dV 13 rfl (y_buildArr (out := [_, _]) ap_106 rfl rfl rfl) ?_
  refine d_ready (i := 14) (rs := []) (by kernel_rfl) .nil (all_one ?_)
  refine o_gives rfl rfl rfl (g_buildSlice (cs := [_, _]) sl_118 sz_106 ze_106 rfl rfl rfl rfl (by simp [Value.cells]) rfl rfl) rfl ?_
  intro b20 hb20
  refine d_ready (i := 15) (rs := []) (by kernel_rfl) .nil (all_one ?_)
  refine o_call rfl (no_guard rfl) ok_28 rfl rfl (out_tail (A := [_]) (H1 := (bC, slV so out.length :: .float .f64 (F x) :: .float .f64 (F y) :: .bool o :: .float .f64 (F fx) :: .float .f64 (F fy) :: rest, 46) :: slH so (encS out) 34) (fun w1 ha hb => f28_1 w1 bC 1 1 x y fx fy o out so rest (some ⟨b20, 0, none⟩) (x + dx) (y + dy) hx1 hy1 hok hlen (RdP_own1 ha) hb)) ?_
  intro so2 hok2
  refine d_end (by kernel_rfl) .nil ?_
  exact body_ret (rs := []) rfl (vs := []) trivial (out_end so2 hok2 rfl (.cons (.there .here) (.skip .refl))) _ (.inl rfl)
 ·refine o_gives rfl rfl rfl (gy (y_load1 ld_41 rfl m0 rfl)) rfl ?_
  intro _ _
  refine dV 12 rfl (y_fadd rfl rfl hy0 hj hy1) ?_
  refine d_ready (i := 4) (rs := []) (by kernel_rfl) .nil (all_one ?_)
  refine o_gives rfl rfl rfl (gy (y_load1 ld_41 rfl m0 rfl)) rfl ?_
  intro _ _
  refine dV 6 rfl (y_fadd rfl rfl hx0 hi hx1) ?_
  refine dV 13 rfl (y_buildArr (out := [_, _]) ap_106 rfl rfl rfl) ?_
  refine d_ready (i := 14) (rs := []) (by kernel_rfl) .nil (all_one ?_)
  refine o_gives rfl rfl rfl (g_buildSlice (cs := [_, _]) sl_118 sz_106 ze_106 rfl rfl rfl rfl (by simp [Value.cells]) rfl rfl) rfl ?_
  intro b20 hb20
  refine d_ready (i := 15) (rs := []) (by kernel_rfl) .nil (all_one ?_)
  refine o_call rfl (no_guard rfl) ok_28 rfl rfl (out_tail (A := [_]) (H1 := (bC, slV so out.length :: .float .f64 (F x) :: .float .f64 (F y) :: .bool o :: .float .f64 (F fx) :: .float .f64 (F fy) :: rest, 46) :: slH so (encS out) 34) (fun w1 ha hb => f28_1 w1 bC 1 1 x y fx fy o out so rest (some ⟨b20, 0, none⟩) (x + dx) (y + dy) hx1 hy1 hok hlen (RdP_own1 ha) hb)) ?_
  intro so2 hok2
  refine d_end (by kernel_rfl) .nil ?_
  exact body_ret (rs := []) rfl (vs := []) trivial (out_end so2 hok2 rfl (.cons (.there .here) (.skip .refl))) _ (.inl rfl)
def clo (o : Bool) (x y fx fy : Int) : Bool := o && (decide (x ≠ fx) || decide (y ≠ fy))
def cloOut (c : Bool) (fx fy : Int) (out : List Stk) : List Stk := bif c then out ++ [stk1 1 fx fy] else out
theorem someB {a b : Bool} (h : a = b) : some (Value.bool a) = some (.bool b) := by rw [h]
theorem cmp_ne (a b : Int) : cmpB .neq (compare a b) = some (decide (a ≠ b)) := by
  unfold cmpB
  rcases Int.lt_trichotomy a b with h | h | h
  · rw [Int.compare_eq_lt.2 h, decide_eq_true (by omega)]; rfl
  · rw [Int.compare_eq_eq.2 h, decide_eq_false (by omega)]; rfl
  · rw [Int.compare_eq_gt.2 h, decide_eq_true (by omega)]; rfl
theorem clA {o : Bool} {x y fx fy : Int} (h : o = true) (h2 : decide (x ≠ fx) = true) : true = clo o x y fx fy := by unfold clo; rw [h, h2]; rfl
theorem clB {o : Bool} {x y fx fy : Int} (h : o = true) (h2 : decide (x ≠ fx) = false) : decide (y ≠ fy) = clo o x y fx fy := by unfold clo; rw [h, h2]; rfl
theorem clC {o : Bool} {x y fx fy : Int} (h : o = false) : false = clo o x y fx fy := by unfold clo; rw [h]; rfl
set_option maxHeartbeats 2000000 in
theorem f25_any (w : World) (bC : Nat) (x y fx fy : Int) (o : Bool) (out : List Stk) (so : Sv) (rest : List Value) (hx : x.natAbs < 2 ^ 53) (hy : y.natAbs < 2 ^ 53) (hfx : fx.natAbs < 2 ^ 53) (hfy : fy.natAbs < 2 ^ 53) (hok : slOk so out.length 7 (encS out)) (hlen : out.length ≤ 99999) (hw : Hp w (((bC, slV so out.length :: .float .f64 (F x) :: .float .f64 (F y) :: .bool o :: .float .f64 (F fx) :: .float .f64 (F fy) :: rest, 46) :: slH so (encS out) 34).map (·.1)) ((bC, slV so out.length :: .float .f64 (F x) :: .float .f64 (F y) :: .bool o :: .float .f64 (F fx) :: .float .f64 (F fy) :: rest, 46) :: slH so (encS out) 34) w) : Calls Tryz.prog 25 [.pointer (some ⟨bC, 0, none⟩)].toArray w (Out w (((bC, slV so out.length :: .float .f64 (F x) :: .float .f64 (F y) :: .bool o :: .float .f64 (F fx) :: .float .f64 (F fy) :: rest, 46) :: slH so (encS out) 34).map (·.1)) (fun z : List Stk × Sv => z.1 = cloOut (clo o x y fx fy) fx fy out ∧ slOk z.2 z.1.length 7 (encS z.1)) (fun z => .tuple #[]) (fun z => (bC, slV z.2 z.1.length :: .float .f64 (F x) :: .float .f64 (F y) :: .bool false :: .float .f64 (F fx) :: .float .f64 (F fy) :: rest, 46) :: slH z.2 (encS z.1) 34)) := by
 refine enter (n := 55) Tryz.func25 rfl rfl rfl hw ?_
 refine c_seq ?_
 refine c_seq ?_
 refine c_drawH mixed rfl ?_
 refine dM 0 rfl rfl ?_
 refine dN 1 rfl rfl ?_
 refine dV 2 rfl (y_fieldAddr fo_43_1 rfl) ?_
 refine dV 3 rfl (y_load1 ld_41 rfl m0 rfl) ?_
 refine dM 4 rfl rfl ?_
 refine dN 5 rfl rfl ?_
 refine dV 6 rfl (y_fieldAddr fo_43_2 rfl) ?_
 refine dV 7 rfl (y_load1 ld_41 rfl m0 rfl) ?_
 refine dV 8 rfl (y_assign rfl) ?_
 refine dV 9 rfl (y_assign rfl) ?_
 refine d_end (by kernel_rfl) (.cons .here .refl) ?_
 refine q_then ?_
 refine c_seq ?_
 refine c_cut (ι := Unit) (φ := fun _ => True) (L' := fun _ => [(0, .pointer (some ⟨bC, 0, none⟩)), (2, .float .f64 (F x)), (3, .float .f64 (F y)), (31, .bool (clo o x y fx fy))]) (H' := fun _ => (bC, slV so out.length :: .float .f64 (F x) :: .float .f64 (F y) :: .bool o :: .float .f64 (F fx) :: .float .f64 (F fy) :: rest, 46) :: slH so (encS out) 34) ?_ ?_
 ·refine c_region ?_
  refine lM rfl ?_
  refine lN rfl ?_
  refine lV (y_fieldAddr fo_43_3 rfl) ?_
  refine lV (y_load1 ld_4 rfl m0 rfl) ?_
  refine lM rfl ?_
  refine l_split (t := 16) rfl rfl (fun hs16 => ?_) (fun hs16 => ?_)
  ·refine l_want rfl rfl ?_
   refine lM rfl ?_
   refine l_want rfl rfl ?_
   refine lM rfl ?_
   refine l_want rfl rfl ?_
   refine lN rfl ?_
   refine l_want rfl rfl ?_
   refine lV (y_fieldAddr fo_43_4 rfl) ?_
   refine l_want rfl rfl ?_
   refine lV (y_load1 ld_41 rfl m0 rfl) ?_
   refine l_want rfl rfl ?_
   refine lV (y_fcmp rfl rfl (order_RF (RF_F hx) (RF_F hfx)) (cmp_ne _ _)) ?_
   refine l_want rfl rfl ?_
   refine lM rfl ?_
   refine l_split (t := 23) rfl rfl (fun hs23 => ?_) (fun hs23 => ?_)
   ·refine l_not rfl rfl rfl rfl ?_
    refine l_not rfl rfl rfl rfl ?_
    refine l_not rfl rfl rfl rfl ?_
    refine l_not rfl rfl rfl rfl ?_
    refine l_not rfl rfl rfl rfl ?_
    refine l_not rfl rfl rfl rfl ?_
    refine l_want rfl rfl ?_
    refine lV (y_pick rfl rfl rfl) ?_
    refine lV (y_pick rfl rfl rfl) ?_
    refine l_nil ?_
    exact q_cut () trivial ⟨rfl, rfl, rfl, (by first | exact someB (clA hs16 hs23) | exact someB (clB hs16 hs23) | exact someB (clC hs16)), trivial⟩ (.cons .here .refl)
   ·refine l_want rfl rfl ?_
    refine lM rfl ?_
    refine l_want rfl rfl ?_
    refine lM rfl ?_
    refine l_want rfl rfl ?_
    refine lN rfl ?_
    refine l_want rfl rfl ?_
    refine lV (y_fieldAddr fo_43_5 rfl) ?_
    refine l_want rfl rfl ?_
    refine lV (y_load1 ld_41 rfl m0 rfl) ?_
    refine l_want rfl rfl ?_
    refine lV (y_fcmp rfl rfl (order_RF (RF_F hy) (RF_F hfy)) (cmp_ne _ _)) ?_
    refine l_want rfl rfl ?_
    refine lV (y_pick rfl rfl rfl) ?_
    refine lV (y_pick rfl rfl rfl) ?_
    refine l_nil ?_
    exact q_cut () trivial ⟨rfl, rfl, rfl, (by first | exact someB (clA hs16 hs23) | exact someB (clB hs16 hs23) | exact someB (clC hs16)), trivial⟩ (.cons .here .refl)
  ·refine l_not rfl rfl rfl rfl ?_
   refine l_not rfl rfl rfl rfl ?_
   refine l_not rfl rfl rfl rfl ?_
   refine l_not rfl rfl rfl rfl ?_
   refine l_not rfl rfl rfl rfl ?_
   refine l_not rfl rfl rfl rfl ?_
   refine l_not rfl rfl rfl rfl ?_
   refine l_notU rfl rfl rfl ?_
   refine l_notU rfl rfl rfl ?_
   refine l_notU rfl rfl rfl ?_
   refine l_notU rfl rfl rfl ?_
   refine l_notU rfl rfl rfl ?_
   refine l_notU rfl rfl rfl ?_
   refine l_not rfl rfl rfl rfl ?_
   refine lV (y_pick rfl rfl rfl) ?_
   refine l_nil ?_
   exact q_cut () trivial ⟨rfl, rfl, rfl, (by first | exact someB (clA hs16 hs23) | exact someB (clB hs16 hs23) | exact someB (clC hs16)), trivial⟩ (.cons .here .refl)
 intro _ _
 refine q_then ?_
 refine c_cut (ι := List Stk × Sv) (φ := fun z => z.1 = cloOut (clo o x y fx fy) fx fy out ∧ slOk z.2 z.1.length 7 (encS z.1)) (L' := fun _ => [(0, .pointer (some ⟨bC, 0, none⟩))]) (H' := fun z => (bC, slV z.2 z.1.length :: .float .f64 (F x) :: .float .f64 (F y) :: .bool o :: .float .f64 (F fx) :: .float .f64 (F fy) :: rest, 46) :: slH z.2 (encS z.1) 34) ?_ ?_
 ·refine c_cond rfl (fun hc31 => ?_) (fun hc31 => ?_)
  ·refine c_seq ?_
   refine c_draw [] mixed rfl ?_
   refine dM 0 rfl rfl ?_
   refine dM 1 rfl rfl ?_
   refine dN 2 rfl rfl ?_
   refine dV 3 rfl (y_fieldAddr fo_43_4 rfl) ?_
   refine dM 5 rfl rfl ?_
   refine dN 6 rfl rfl ?_
   refine dV 7 rfl (y_fieldAddr fo_43_5 rfl) ?_
   refine d_ready (i := 4) (rs := [8]) (by kernel_rfl) .nil (all_cons ?_ (all_one ?_))
   ·refine o_gives rfl rfl rfl (gy (y_load1 ld_41 rfl m0 rfl)) rfl ?_
    intro _ _
    refine d_ready (i := 8) (rs := []) (by kernel_rfl) .nil (all_one ?_)
    refine o_gives rfl rfl rfl (gy (y_load1 ld_41 rfl m0 rfl)) rfl ?_
    intro _ _
    refine dV 9 rfl (y_buildArr (out := [_, _]) ap_106 rfl rfl rfl) ?_
    refine d_ready (i := 10) (rs := []) (by kernel_rfl) .nil (all_one ?_)
    refine o_gives rfl rfl rfl (g_buildSlice (cs := [_, _]) sl_118 sz_106 ze_106 rfl rfl rfl rfl (by simp [Value.cells]) rfl rfl) rfl ?_
    intro b42 hb42
    refine d_ready (i := 11) (rs := []) (by kernel_rfl) .nil (all_one ?_)
    refine o_call rfl (no_guard rfl) ok_28 rfl rfl (out_tail (A := [_]) (H1 := (bC, slV so out.length :: .float .f64 (F x) :: .float .f64 (F y) :: .bool o :: .float .f64 (F fx) :: .float .f64 (F fy) :: rest, 46) :: slH so (encS out) 34) (fun w1 ha hb => f28_1 w1 bC 1 1 x y fx fy o out so rest (some ⟨b42, 0, none⟩) fx fy hfx hfy hok (by omega) (RdP_own1 ha) hb)) ?_
    intro so2 hok2
    refine d_end (by kernel_rfl) .nil ?_
    refine qG ?_
    refine lM rfl ?_
    refine lM rfl ?_
    refine lM rfl ?_
    refine lM rfl ?_
    refine lN rfl ?_
    refine lV (y_fieldAddr fo_43_1 rfl) ?_
    refine l_does rfl rfl (g_store1 sz_41 rfl rfl rfl rfl rfl rfl (.there .here)) ?_
    intro _ _
    refine lN rfl ?_
    refine lV (y_fieldAddr fo_43_2 rfl) ?_
    refine l_does rfl rfl (g_store1 sz_41 rfl rfl rfl rfl rfl rfl (.there .here)) ?_
    intro _ _
    refine l_nil ?_
    exact q_cut (out ++ [(stk1 1 fx fy)], so2) ⟨by rw [hc31]; rfl, hok2⟩ ⟨rfl, trivial⟩ (.cons (.there .here) (.skip .refl))
   ·refine o_gives rfl rfl rfl (gy (y_load1 ld_41 rfl m0 rfl)) rfl ?_
    intro _ _
    refine d_ready (i := 4) (rs := []) (by kernel_rfl) .nil (all_one ?_)
    refine o_gives rfl rfl rfl (gy (y_load1 ld_41 rfl m0 rfl)) rfl ?_
    intro _ _
    refine dV 9 rfl (y_buildArr (out := [_, _]) ap_106 rfl rfl rfl) ?_
    refine d_ready (i := 10) (rs := []) (by kernel_rfl) .nil (all_one ?_)
    refine o_gives rfl rfl rfl (g_buildSlice (cs := [_, _]) sl_118 sz_106 ze_106 rfl rfl rfl rfl (by simp [Value.cells]) rfl rfl) rfl ?_
    intro b42 hb42
    refine d_ready (i := 11) (rs := []) (by kernel_rfl) .nil (all_one ?_)
    refine o_call rfl (no_guard rfl) ok_28 rfl rfl (out_tail (A := [_]) (H1 := (bC, slV so out.length :: .float .f64 (F x) :: .float .f64 (F y) :: .bool o :: .float .f64 (F fx) :: .float .f64 (F fy) :: rest, 46) :: slH so (encS out) 34) (fun w1 ha hb => f28_1 w1 bC 1 1 x y fx fy o out so rest (some ⟨b42, 0, none⟩) fx fy hfx hfy hok (by omega) (RdP_own1 ha) hb)) ?_
    intro so2 hok2
    refine d_end (by kernel_rfl) .nil ?_
    refine qG ?_
    refine lM rfl ?_
    refine lM rfl ?_
    refine lM rfl ?_
    refine lM rfl ?_
    refine lN rfl ?_
    refine lV (y_fieldAddr fo_43_1 rfl) ?_
    refine l_does rfl rfl (g_store1 sz_41 rfl rfl rfl rfl rfl rfl (.there .here)) ?_
    intro _ _
    refine lN rfl ?_
    refine lV (y_fieldAddr fo_43_2 rfl) ?_
    refine l_does rfl rfl (g_store1 sz_41 rfl rfl rfl rfl rfl rfl (.there .here)) ?_
    intro _ _
    refine l_nil ?_
    exact q_cut (out ++ [(stk1 1 fx fy)], so2) ⟨by rw [hc31]; rfl, hok2⟩ ⟨rfl, trivial⟩ (.cons (.there .here) (.skip .refl))
  ·refine c_skip ?_
   exact q_cut (out, so) ⟨by rw [hc31]; rfl, hok⟩ ⟨rfl, trivial⟩ (.cons .here .refl)
 intro ⟨out3, so3⟩ ⟨hout, hok3⟩
 simp only at hout hok3 ⊢
 refine qG ?_
 refine lM rfl ?_
 refine lN rfl ?_
 refine lV (y_fieldAddr fo_43_3 rfl) ?_
 refine l_does rfl rfl (g_store1 sz_4 rfl rfl rfl rfl rfl rfl .here) ?_
 intro _ _
 refine l_nil ?_
 exact body_ret (rs := []) rfl (vs := []) trivial (out_end (out3, so3) ⟨hout, hok3⟩ rfl (.cons .here .refl)) _ (.inl rfl)
theorem cloOut_len (c : Bool) (fx fy : Int) (out : List Stk) : (cloOut c fx fy out).length ≤ out.length + 1 := by cases c <;> simp [cloOut]
set_option maxHeartbeats 4000000 in
theorem f24_any (w : World) (bC : Nat) (x y fx fy dx dy : Int) (i j : Nat) (o : Bool) (out : List Stk) (so : Sv) (rest : List Value) (hx : x.natAbs < 2 ^ 53) (hy : y.natAbs < 2 ^ 53) (hfx : fx.natAbs < 2 ^ 53) (hfy : fy.natAbs < 2 ^ 53) (hi : RF i dx) (hj : RF j dy) (hx1 : (x + dx).natAbs < 2 ^ 53) (hy1 : (y + dy).natAbs < 2 ^ 53) (hok : slOk so out.length 7 (encS out)) (hlen : out.length ≤ 90000) (hw : Hp w (((bC, slV so out.length :: .float .f64 (F x) :: .float .f64 (F y) :: .bool o :: .float .f64 (F fx) :: .float .f64 (F fy) :: rest, 46) :: slH so (encS out) 34).map (·.1)) ((bC, slV so out.length :: .float .f64 (F x) :: .float .f64 (F y) :: .bool o :: .float .f64 (F fx) :: .float .f64 (F fy) :: rest, 46) :: slH so (encS out) 34) w) : Calls Tryz.prog 24 [.pointer (some ⟨bC, 0, none⟩), .float .f64 i, .float .f64 j].toArray w (Out w (((bC, slV so out.length :: .float .f64 (F x) :: .float .f64 (F y) :: .bool o :: .float .f64 (F fx) :: .float .f64 (F fy) :: rest, 46) :: slH so (encS out) 34).map (·.1)) (fun z : Sv => slOk z ((cloOut (clo o x y fx fy) fx fy out) ++ [(stk1 0 (x + dx) (y + dy))]).length 7 (encS ((cloOut (clo o x y fx fy) fx fy out) ++ [(stk1 0 (x + dx) (y + dy))]))) (fun z => .tuple #[]) (fun z => (bC, slV z ((cloOut (clo o x y fx fy) fx fy out) ++ [(stk1 0 (x + dx) (y + dy))]).length :: .float .f64 (F (x + dx)) :: .float .f64 (F (y + dy)) :: .bool true :: .float .f64 (F (x + dx)) :: .float .f64 (F (y + dy)) :: rest, 46) :: slH z (encS ((cloOut (clo o x y fx fy) fx fy out) ++ [(stk1 0 (x + dx) (y + dy))])) 34)) := by
 refine enter (n := 41) Tryz.func24 rfl rfl rfl hw ?_
 refine cR ?_
 refine lM rfl ?_
 refine l_call ok_25 rfl rfl (out_all (H1 := (bC, slV so out.length :: .float .f64 (F x) :: .float .f64 (F y) :: .bool o :: .float .f64 (F fx) :: .float .f64 (F fy) :: rest, 46) :: slH so (encS out) 34) (fun w1 ha hb => f25_any w1 bC x y fx fy o out so rest hx hy hfx hfy hok (by omega) hb)) ?_
 intro ⟨out2, so1⟩ ⟨hout, hok1⟩
 simp only at hout hok1 ⊢
 have hl2 : out2.length ≤ out.length + 1 := by rw [hout]; exact cloOut_len _ _ _ _
 refine nQ ?_
 refine c_seq ?_
 refine c_cut (ι := Sv) (φ := fun z => slOk z (out2 ++ [(stk1 0 (x + dx) (y + dy))]).length 7 (encS (out2 ++ [(stk1 0 (x + dx) (y + dy))]))) (L' := fun _ => [(0, .pointer (some ⟨bC, 0, none⟩))]) (H' := fun z => (bC, slV z (out2 ++ [(stk1 0 (x + dx) (y + dy))]).length :: .float .f64 (F (x + dx)) :: .float .f64 (F (y + dy)) :: .bool false :: .float .f64 (F fx) :: .float .f64 (F fy) :: rest, 46) :: slH z (encS (out2 ++ [(stk1 0 (x + dx) (y + dy))])) 34) ?_ ?_
 ·refine c_draw [] mixed rfl ?_
  refine dM 0 rfl rfl ?_
  refine dM 1 rfl rfl ?_
  refine dN 2 rfl rfl ?_
  refine dV 3 rfl (y_fieldAddr fo_43_1 rfl) ?_
  refine dM 5 rfl rfl ?_
  refine dM 7 rfl rfl ?_
  refine dN 8 rfl rfl ?_
  refine dV 9 rfl (y_fieldAddr fo_43_2 rfl) ?_
  refine dM 11 rfl rfl ?_
  refine d_ready (i := 4) (rs := [10]) (by kernel_rfl) .nil (all_cons ?_ (all_one ?_))
  ·refine o_gives rfl rfl rfl (gy (y_load1 ld_41 rfl m0 rfl)) rfl ?_
   intro _ _
   refine dV 6 rfl (y_fadd rfl rfl hx hi hx1) ?_
   refine d_ready (i := 10) (rs := []) (by kernel_rfl) .nil (all_one ?_)
   refine o_gives rfl rfl rfl (gy (y_load1 ld_41 rfl m0 rfl)) rfl ?_
   intro _ _
   refine dV 12 rfl (y_fadd rfl rfl hy hj hy1) ?_
   refine dV 13 rfl (y_buildArr (out := [_, _]) ap_106 rfl rfl rfl) ?_
   refine d_ready (i := 14) (rs := []) (by kernel_rfl) .nil (all_one ?_)
   refine o_gives rfl rfl rfl (g_buildSlice (cs := [_, _]) sl_118 sz_106 ze_106 rfl rfl rfl rfl (by simp [Value.cells]) rfl rfl) rfl ?_
   intro b22 hb22
   refine d_ready (i := 15) (rs := []) (by kernel_rfl) .nil (all_one ?_)
   refine o_call rfl (no_guard rfl) ok_28 rfl rfl (out_tail (A := [_]) (H1 := (bC, slV so1 out2.length :: .float .f64 (F x) :: .float .f64 (F y) :: .bool false :: .float .f64 (F fx) :: .float .f64 (F fy) :: rest, 46) :: slH so1 (encS out2) 34) (fun w1 ha hb => f28_1 w1 bC 1 0 x y fx fy false out2 so1 rest (some ⟨b22, 0, none⟩) (x + dx) (y + dy) hx1 hy1 hok1 (by omega) (RdP_own1 ha) hb)) ?_
   intro so2 hok2
   refine d_end (by kernel_rfl) .nil ?_
   exact q_cut so2 hok2 ⟨rfl, trivial⟩ (.cons (.there .here) (.skip .refl))
  ·refine o_gives rfl rfl rfl (gy (y_load1 ld_41 rfl m0 rfl)) rfl ?_
   intro _ _
   refine dV 12 rfl (y_fadd rfl rfl hy hj hy1) ?_
   refine d_ready (i := 4) (rs := []) (by kernel_rfl) .nil (all_one ?_)
   refine o_gives rfl rfl rfl (gy (y_load1 ld_41 rfl m0 rfl)) rfl ?_
   intro _ _
   refine dV 6 rfl (y_fadd rfl rfl hx hi hx1) ?_
   refine dV 13 rfl (y_buildArr (out := [_, _]) ap_106 rfl rfl rfl) ?_
   refine d_ready (i := 14) (rs := []) (by kernel_rfl) .nil (all_one ?_)
   refine o_gives rfl rfl rfl (g_buildSlice (cs := [_, _]) sl_118 sz_106 ze_106 rfl rfl rfl rfl (by simp [Value.cells]) rfl rfl) rfl ?_
   intro b22 hb22
   refine d_ready (i := 15) (rs := []) (by kernel_rfl) .nil (all_one ?_)
   refine o_call rfl (no_guard rfl) ok_28 rfl rfl (out_tail (A := [_]) (H1 := (bC, slV so1 out2.length :: .float .f64 (F x) :: .float .f64 (F y) :: .bool false :: .float .f64 (F fx) :: .float .f64 (F fy) :: rest, 46) :: slH so1 (encS out2) 34) (fun w1 ha hb => f28_1 w1 bC 1 0 x y fx fy false out2 so1 rest (some ⟨b22, 0, none⟩) (x + dx) (y + dy) hx1 hy1 hok1 (by omega) (RdP_own1 ha) hb)) ?_
   intro so2 hok2
   refine d_end (by kernel_rfl) .nil ?_
   exact q_cut so2 hok2 ⟨rfl, trivial⟩ (.cons (.there .here) (.skip .refl))
 intro so3 hok3
 refine q_then ?_
 refine c_cut (ι := Unit) (φ := fun _ => True) (L' := fun _ => [(0, .pointer (some ⟨bC, 0, none⟩))]) (H' := fun _ => (bC, slV so3 (out2 ++ [(stk1 0 (x + dx) (y + dy))]).length :: .float .f64 (F (x + dx)) :: .float .f64 (F (y + dy)) :: .bool true :: .float .f64 (F (x + dx)) :: .float .f64 (F (y + dy)) :: rest, 46) :: slH so3 (encS (out2 ++ [(stk1 0 (x + dx) (y + dy))])) 34) ?_ ?_
 ·refine c_draw [] mixed rfl ?_
  refine dM 0 rfl rfl ?_
  refine dM 1 rfl rfl ?_
  refine dM 2 rfl rfl ?_
  refine dM 3 rfl rfl ?_
  refine dN 4 rfl rfl ?_
  refine dV 5 rfl (y_fieldAddr fo_43_1 rfl) ?_
  refine dM 7 rfl rfl ?_
  refine dN 8 rfl rfl ?_
  refine dV 9 rfl (y_fieldAddr fo_43_2 rfl) ?_
  refine d_ready (i := 6) (rs := [10]) (by kernel_rfl) .nil (all_cons ?_ (all_one ?_))
  ·refine o_gives rfl rfl rfl (gy (y_load1 ld_41 rfl m0 rfl)) rfl ?_
   intro _ _
   refine d_ready (i := 10) (rs := []) (by kernel_rfl) .nil (all_one ?_)
   refine o_gives rfl rfl rfl (gy (y_load1 ld_41 rfl m0 rfl)) rfl ?_
   intro _ _
   refine dN 11 rfl rfl ?_
   refine dV 12 rfl (y_fieldAddr fo_43_4 rfl) ?_
   refine d_ready (i := 13) (rs := []) (by kernel_rfl) .nil (all_one ?_)
   refine o_does rfl rfl rfl (g_store1 sz_41 rfl rfl rfl rfl rfl rfl .here) ?_
   intro _ _
   refine dN 14 rfl rfl ?_
   refine dV 15 rfl (y_fieldAddr fo_43_5 rfl) ?_
   refine d_ready (i := 16) (rs := []) (by kernel_rfl) .nil (all_one ?_)
   refine o_does rfl rfl rfl (g_store1 sz_41 rfl rfl rfl rfl rfl rfl .here) ?_
   intro _ _
   refine dN 17 rfl rfl ?_
   refine dV 18 rfl (y_fieldAddr fo_43_3 rfl) ?_
   refine d_ready (i := 19) (rs := []) (by kernel_rfl) .nil (all_one ?_)
   refine o_does rfl rfl rfl (g_store1 sz_4 rfl rfl rfl rfl rfl rfl .here) ?_
   intro _ _
   refine d_end (by kernel_rfl) .nil ?_
   exact q_cut () trivial ⟨rfl, trivial⟩ (.cons .here .refl)
  ·refine o_gives rfl rfl rfl (gy (y_load1 ld_41 rfl m0 rfl)) rfl ?_
   intro _ _
   refine d_ready (i := 6) (rs := []) (by kernel_rfl) .nil (all_one ?_)
   refine o_gives rfl rfl rfl (gy (y_load1 ld_41 rfl m0 rfl)) rfl ?_
   intro _ _
   refine dN 11 rfl rfl ?_
   refine dV 12 rfl (y_fieldAddr fo_43_4 rfl) ?_
   refine d_ready (i := 13) (rs := []) (by kernel_rfl) .nil (all_one ?_)
   refine o_does rfl rfl rfl (g_store1 sz_41 rfl rfl rfl rfl rfl rfl .here) ?_
   intro _ _
   refine dN 14 rfl rfl ?_
   refine dV 15 rfl (y_fieldAddr fo_43_5 rfl) ?_
   refine d_ready (i := 16) (rs := []) (by kernel_rfl) .nil (all_one ?_)
   refine o_does rfl rfl rfl (g_store1 sz_41 rfl rfl rfl rfl rfl rfl .here) ?_
   intro _ _
   refine dN 17 rfl rfl ?_
   refine dV 18 rfl (y_fieldAddr fo_43_3 rfl) ?_
   refine d_ready (i := 19) (rs := []) (by kernel_rfl) .nil (all_one ?_)
   refine o_does rfl rfl rfl (g_store1 sz_4 rfl rfl rfl rfl rfl rfl .here) ?_
   intro _ _
   refine d_end (by kernel_rfl) .nil ?_
   exact q_cut () trivial ⟨rfl, trivial⟩ (.cons .here .refl)
 intro _ _
 exact body_ret (rs := []) rfl (vs := []) trivial (out_end so3 (by rw [← hout]; exact hok3) (by rfl) (by rw [← hout]; exact .refl)) _ (.inl rfl)
/-- Words that a slice has, in memory that was there and is not among S. -/
def RdF (w : World) (S : List Nat) (A : Option Addr) (ws : List Nat) : Prop := ∃ p, A = some p ∧ p.block < w.heap.size ∧ p.block ∉ S ∧ ∀ i u, ws[i]? = some u → w.cell? (p.add (i * 1)) = some (.float .f64 u)
theorem RdP_own3 {w0 w : World} {S : List Nat} {b : Nat} {x0 y0 x1 y1 x2 y2 : Int} {sp : List Value} {e : TypeId} {H1 : Heap} (h : Hp w0 S ((b, .float .f64 (F x0) :: .float .f64 (F y0) :: .float .f64 (F x1) :: .float .f64 (F y1) :: .float .f64 (F x2) :: .float .f64 (F y2) :: sp, e) :: H1) w) :
    RdP w (H1.map (·.1)) (some ⟨b, 0, none⟩) [(x0, y0), (x1, y1), (x2, y2)] := by
  refine ⟨_, rfl, h.lt (.head _), not_ids h, fun i q hq => ?_⟩
  match i, hq with
  | 0, hq => simp at hq; subst hq; exact ⟨by rw [Addr.add_lit, h.cell (.head _)]; rfl, by rw [Addr.add_lit, h.cell (.head _)]; rfl⟩
  | 1, hq => simp at hq; subst hq; exact ⟨by rw [Addr.add_lit, h.cell (.head _)]; rfl, by rw [Addr.add_lit, h.cell (.head _)]; rfl⟩
  | 2, hq => simp at hq; subst hq; exact ⟨by rw [Addr.add_lit, h.cell (.head _)]; rfl, by rw [Addr.add_lit, h.cell (.head _)]; rfl⟩
  | i + 3, hq => simp at hq
set_option maxHeartbeats 4000000 in
theorem f22_any (w : World) (bC m cl : Nat) (x y fx fy a b c d e f : Int) (ia ib ic id_ ie if_ : Nat) (wr : List Nat) (o : Bool) (out : List Stk) (so : Sv) (rest : List Value) (A : Option Addr) (hx : x.natAbs < 2 ^ 53) (hy : y.natAbs < 2 ^ 53) (ha : RF ia a) (hb : RF ib b) (hc : RF ic c) (hd : RF id_ d) (he : RF ie e) (hf : RF if_ f)
    (hx0 : (x + a).natAbs < 2 ^ 53) (hy0 : (y + b).natAbs < 2 ^ 53) (hx1 : (x + a + c).natAbs < 2 ^ 53) (hy1 : (y + b + d).natAbs < 2 ^ 53) (hx2 : (x + a + c + e).natAbs < 2 ^ 53) (hy2 : (y + b + d + f).natAbs < 2 ^ 53) (hm : 6 ≤ m) (hok : slOk so out.length 7 (encS out)) (hlen : out.length ≤ 100000) (hR : RdF w (((bC, slV so out.length :: .float .f64 (F x) :: .float .f64 (F y) :: .bool o :: .float .f64 (F fx) :: .float .f64 (F fy) :: rest, 46) :: slH so (encS out) 34).map (·.1)) A (ia :: ib :: ic :: id_ :: ie :: if_ :: wr)) (hw : Hp w (((bC, slV so out.length :: .float .f64 (F x) :: .float .f64 (F y) :: .bool o :: .float .f64 (F fx) :: .float .f64 (F fy) :: rest, 46) :: slH so (encS out) 34).map (·.1)) ((bC, slV so out.length :: .float .f64 (F x) :: .float .f64 (F y) :: .bool o :: .float .f64 (F fx) :: .float .f64 (F fy) :: rest, 46) :: slH so (encS out) 34) w) : Calls Tryz.prog 22 [.pointer (some ⟨bC, 0, none⟩), .slice A m cl].toArray w (Out w (((bC, slV so out.length :: .float .f64 (F x) :: .float .f64 (F y) :: .bool o :: .float .f64 (F fx) :: .float .f64 (F fy) :: rest, 46) :: slH so (encS out) 34).map (·.1)) (fun z : Sv => slOk z (out ++ [(stk3 3 (x + a) (y + b) (x + a + c) (y + b + d) (x + a + c + e) (y + b + d + f))]).length 7 (encS (out ++ [(stk3 3 (x + a) (y + b) (x + a + c) (y + b + d) (x + a + c + e) (y + b + d + f))]))) (fun z => .tuple #[]) (fun z => (bC, slV z (out ++ [(stk3 3 (x + a) (y + b) (x + a + c) (y + b + d) (x + a + c + e) (y + b + d + f))]).length :: .float .f64 (F (x + a + c + e)) :: .float .f64 (F (y + b + d + f)) :: .bool o :: .float .f64 (F fx) :: .float .f64 (F fy) :: rest, 46) :: slH z (encS (out ++ [(stk3 3 (x + a) (y + b) (x + a + c) (y + b + d) (x + a + c + e) (y + b + d + f))])) 34)) := by
  obtain ⟨p, rfl, hpb, hpS, hpc⟩ := hR
  refine enter (n := 54) Tryz.func22 rfl rfl rfl hw ?_
  refine c_seq ?_
  -- region 0
  refine c_drawH mixed rfl ?_
  refine d_val (i := 0) rfl (by kernel_rfl) (by kernel_rfl) (by kernel_rfl) (y_move rfl) rfl (no_guard rfl) rfl (fun _ _ _ h => h) ?_
  refine d_val (i := 1) rfl (by kernel_rfl) (by kernel_rfl) (by kernel_rfl) (y_nilCheck rfl) rfl (no_guard rfl) rfl (fun _ _ _ h => h) ?_
  refine d_val (i := 2) rfl (by kernel_rfl) (by kernel_rfl) (by kernel_rfl) (y_fieldAddr fo_43_1 rfl) rfl (no_guard rfl) rfl (fun _ _ _ h => h) ?_
  refine d_val (i := 3) rfl (by kernel_rfl) (by kernel_rfl) (by kernel_rfl) (y_load1 ld_41 rfl m0 rfl) rfl (no_guard rfl) rfl (fun _ _ _ h => h) ?_
  refine d_val (i := 4) rfl (by kernel_rfl) (by kernel_rfl) (by kernel_rfl) (y_move rfl) rfl (no_guard rfl) rfl (fun _ _ _ h => h) ?_
  refine d_val (i := 5) rfl (by kernel_rfl) (by kernel_rfl) (by kernel_rfl) (y_indexAddr (j := 0) es_44 rfl rfl (by omega)) rfl (no_guard rfl) rfl (fun _ _ _ h => h) ?_
  refine d_val (i := 6) rfl (by kernel_rfl) (by kernel_rfl) (by kernel_rfl) (y_oldLoad1 ld_41 rfl (by rw [block_add]; exact hpb) (by rw [block_add]; exact hpS) (hpc 0 _ rfl)) rfl (no_guard rfl) rfl (fun _ _ _ h => h) ?_
  refine d_val (i := 7) rfl (by kernel_rfl) (by kernel_rfl) (by kernel_rfl) (y_fadd rfl rfl hx ha hx0) rfl (no_guard rfl) rfl (fun _ _ _ h => h) ?_
  refine d_val (i := 8) rfl (by kernel_rfl) (by kernel_rfl) (by kernel_rfl) (y_move rfl) rfl (no_guard rfl) rfl (fun _ _ _ h => h) ?_
  refine d_val (i := 9) rfl (by kernel_rfl) (by kernel_rfl) (by kernel_rfl) (y_nilCheck rfl) rfl (no_guard rfl) rfl (fun _ _ _ h => h) ?_
  refine d_val (i := 10) rfl (by kernel_rfl) (by kernel_rfl) (by kernel_rfl) (y_fieldAddr fo_43_2 rfl) rfl (no_guard rfl) rfl (fun _ _ _ h => h) ?_
  refine d_val (i := 11) rfl (by kernel_rfl) (by kernel_rfl) (by kernel_rfl) (y_load1 ld_41 rfl m0 rfl) rfl (no_guard rfl) rfl (fun _ _ _ h => h) ?_
  refine d_val (i := 12) rfl (by kernel_rfl) (by kernel_rfl) (by kernel_rfl) (y_move rfl) rfl (no_guard rfl) rfl (fun _ _ _ h => h) ?_
  refine d_val (i := 13) rfl (by kernel_rfl) (by kernel_rfl) (by kernel_rfl) (y_indexAddr (j := 1) es_44 rfl rfl (by omega)) rfl (no_guard rfl) rfl (fun _ _ _ h => h) ?_
  refine d_val (i := 14) rfl (by kernel_rfl) (by kernel_rfl) (by kernel_rfl) (y_oldLoad1 ld_41 rfl (by rw [block_add]; exact hpb) (by rw [block_add]; exact hpS) (hpc 1 _ rfl)) rfl (no_guard rfl) rfl (fun _ _ _ h => h) ?_
  refine d_val (i := 15) rfl (by kernel_rfl) (by kernel_rfl) (by kernel_rfl) (y_fadd rfl rfl hy hb hy0) rfl (no_guard rfl) rfl (fun _ _ _ h => h) ?_
  refine d_val (i := 16) rfl (by kernel_rfl) (by kernel_rfl) (by kernel_rfl) (y_assign rfl) rfl (no_guard rfl) rfl (fun _ _ _ h => h) ?_
  refine d_val (i := 17) rfl (by kernel_rfl) (by kernel_rfl) (by kernel_rfl) (y_assign rfl) rfl (no_guard rfl) rfl (fun _ _ _ h => h) ?_
  refine d_end (by kernel_rfl) (.cons .here .refl) ?_
  refine q_then ?_
  refine c_seq ?_
  -- region 1
  refine c_drawH mixed rfl ?_
  refine d_val (i := 0) rfl (by kernel_rfl) (by kernel_rfl) (by kernel_rfl) (y_move rfl) rfl (no_guard rfl) rfl (fun _ _ _ h => h) ?_
  refine d_val (i := 1) rfl (by kernel_rfl) (by kernel_rfl) (by kernel_rfl) (y_move rfl) rfl (no_guard rfl) rfl (fun _ _ _ h => h) ?_
  refine d_val (i := 2) rfl (by kernel_rfl) (by kernel_rfl) (by kernel_rfl) (y_indexAddr (j := 2) es_44 rfl rfl (by omega)) rfl (no_guard rfl) rfl (fun _ _ _ h => h) ?_
  refine d_val (i := 3) rfl (by kernel_rfl) (by kernel_rfl) (by kernel_rfl) (y_oldLoad1 ld_41 rfl (by rw [block_add]; exact hpb) (by rw [block_add]; exact hpS) (hpc 2 _ rfl)) rfl (no_guard rfl) rfl (fun _ _ _ h => h) ?_
  refine d_val (i := 4) rfl (by kernel_rfl) (by kernel_rfl) (by kernel_rfl) (y_fadd rfl rfl hx0 hc hx1) rfl (no_guard rfl) rfl (fun _ _ _ h => h) ?_
  refine d_val (i := 5) rfl (by kernel_rfl) (by kernel_rfl) (by kernel_rfl) (y_move rfl) rfl (no_guard rfl) rfl (fun _ _ _ h => h) ?_
  refine d_val (i := 6) rfl (by kernel_rfl) (by kernel_rfl) (by kernel_rfl) (y_move rfl) rfl (no_guard rfl) rfl (fun _ _ _ h => h) ?_
  refine d_val (i := 7) rfl (by kernel_rfl) (by kernel_rfl) (by kernel_rfl) (y_indexAddr (j := 3) es_44 rfl rfl (by omega)) rfl (no_guard rfl) rfl (fun _ _ _ h => h) ?_
  refine d_val (i := 8) rfl (by kernel_rfl) (by kernel_rfl) (by kernel_rfl) (y_oldLoad1 ld_41 rfl (by rw [block_add]; exact hpb) (by rw [block_add]; exact hpS) (hpc 3 _ rfl)) rfl (no_guard rfl) rfl (fun _ _ _ h => h) ?_
  refine d_val (i := 9) rfl (by kernel_rfl) (by kernel_rfl) (by kernel_rfl) (y_fadd rfl rfl hy0 hd hy1) rfl (no_guard rfl) rfl (fun _ _ _ h => h) ?_
  refine d_val (i := 10) rfl (by kernel_rfl) (by kernel_rfl) (by kernel_rfl) (y_assign rfl) rfl (no_guard rfl) rfl (fun _ _ _ h => h) ?_
  refine d_val (i := 11) rfl (by kernel_rfl) (by kernel_rfl) (by kernel_rfl) (y_assign rfl) rfl (no_guard rfl) rfl (fun _ _ _ h => h) ?_
  refine d_end (by kernel_rfl) (.cons .here .refl) ?_
  refine q_then ?_
  -- region 2
  refine c_draw [] mixed rfl ?_
  refine d_val (i := 0) rfl (by kernel_rfl) (by kernel_rfl) (by kernel_rfl) (y_move rfl) rfl (no_guard rfl) rfl (fun _ _ _ h => h) ?_
  refine d_val (i := 1) rfl (by kernel_rfl) (by kernel_rfl) (by kernel_rfl) (y_move rfl) rfl (no_guard rfl) rfl (fun _ _ _ h => h) ?_
  refine d_val (i := 2) rfl (by kernel_rfl) (by kernel_rfl) (by kernel_rfl) (y_move rfl) rfl (no_guard rfl) rfl (fun _ _ _ h => h) ?_
  refine d_val (i := 3) rfl (by kernel_rfl) (by kernel_rfl) (by kernel_rfl) (y_buildArr (out := [_, _]) ap_106 rfl rfl rfl) rfl (no_guard rfl) rfl (fun _ _ _ h => h) ?_
  refine d_val (i := 4) rfl (by kernel_rfl) (by kernel_rfl) (by kernel_rfl) (y_move rfl) rfl (no_guard rfl) rfl (fun _ _ _ h => h) ?_
  refine d_val (i := 5) rfl (by kernel_rfl) (by kernel_rfl) (by kernel_rfl) (y_move rfl) rfl (no_guard rfl) rfl (fun _ _ _ h => h) ?_
  refine d_val (i := 6) rfl (by kernel_rfl) (by kernel_rfl) (by kernel_rfl) (y_buildArr (out := [_, _]) ap_106 rfl rfl rfl) rfl (no_guard rfl) rfl (fun _ _ _ h => h) ?_
  refine d_val (i := 7) rfl (by kernel_rfl) (by kernel_rfl) (by kernel_rfl) (y_move rfl) rfl (no_guard rfl) rfl (fun _ _ _ h => h) ?_
  refine d_val (i := 8) rfl (by kernel_rfl) (by kernel_rfl) (by kernel_rfl) (y_move rfl) rfl (no_guard rfl) rfl (fun _ _ _ h => h) ?_
  refine d_val (i := 9) rfl (by kernel_rfl) (by kernel_rfl) (by kernel_rfl) (y_indexAddr (j := 4) es_44 rfl rfl (by omega)) rfl (no_guard rfl) rfl (fun _ _ _ h => h) ?_
  refine d_val (i := 10) rfl (by kernel_rfl) (by kernel_rfl) (by kernel_rfl) (y_oldLoad1 ld_41 rfl (by rw [block_add]; exact hpb) (by rw [block_add]; exact hpS) (hpc 4 _ rfl)) rfl (no_guard rfl) rfl (fun _ _ _ h => h) ?_
  refine d_val (i := 11) rfl (by kernel_rfl) (by kernel_rfl) (by kernel_rfl) (y_fadd rfl rfl hx1 he hx2) rfl (no_guard rfl) rfl (fun _ _ _ h => h) ?_
  refine d_val (i := 12) rfl (by kernel_rfl) (by kernel_rfl) (by kernel_rfl) (y_move rfl) rfl (no_guard rfl) rfl (fun _ _ _ h => h) ?_
  refine d_val (i := 13) rfl (by kernel_rfl) (by kernel_rfl) (by kernel_rfl) (y_move rfl) rfl (no_guard rfl) rfl (fun _ _ _ h => h) ?_
  refine d_val (i := 14) rfl (by kernel_rfl) (by kernel_rfl) (by kernel_rfl) (y_indexAddr (j := 5) es_44 rfl rfl (by omega)) rfl (no_guard rfl) rfl (fun _ _ _ h => h) ?_
  refine d_val (i := 15) rfl (by kernel_rfl) (by kernel_rfl) (by kernel_rfl) (y_oldLoad1 ld_41 rfl (by rw [block_add]; exact hpb) (by rw [block_add]; exact hpS) (hpc 5 _ rfl)) rfl (no_guard rfl) rfl (fun _ _ _ h => h) ?_
  refine d_val (i := 16) rfl (by kernel_rfl) (by kernel_rfl) (by kernel_rfl) (y_fadd rfl rfl hy1 hf hy2) rfl (no_guard rfl) rfl (fun _ _ _ h => h) ?_
  refine d_val (i := 17) rfl (by kernel_rfl) (by kernel_rfl) (by kernel_rfl) (y_buildArr (out := [_, _]) ap_106 rfl rfl rfl) rfl (no_guard rfl) rfl (fun _ _ _ h => h) ?_
  refine d_ready (i := 18) (rs := []) (by kernel_rfl) .nil (all_one ?_)
  refine o_gives rfl rfl rfl (g_buildSlice (cs := [_, _, _, _, _, _]) sl_118 sz_106 ze_106 rfl rfl rfl rfl (by simp [Value.cells]) rfl rfl) rfl ?_
  intro b52 hb52
  refine d_ready (i := 19) (rs := []) (by kernel_rfl) .nil (all_one ?_)
  refine o_call rfl (no_guard rfl) ok_28 rfl rfl (out_tail (A := [_]) (H1 := (bC, slV so out.length :: .float .f64 (F x) :: .float .f64 (F y) :: .bool o :: .float .f64 (F fx) :: .float .f64 (F fy) :: rest, 46) :: slH so (encS out) 34) (fun w1 ha hb => f28_3 w1 bC 3 3 x y fx fy o out so rest (some ⟨b52, 0, none⟩) (x + a) (y + b) (x + a + c) (y + b + d) (x + a + c + e) (y + b + d + f) hx0 hy0 hx1 hy1 hx2 hy2 hok hlen (RdP_own3 ha) hb)) ?_
  intro so2 hok2
  refine d_end (by kernel_rfl) .nil ?_
  exact body_ret (rs := []) rfl (vs := []) trivial (out_end so2 hok2 rfl (.cons (.there .here) (.skip .refl))) _ (.inl rfl)
end Go.Proofs.YtbepljmeflndkaaGreatDoor
namespace Go.Proofs.YtbepljmeflndkaaGreatDoor
open Go.Eng Go.Fl
structure PSt where
  (x y fx fy : Int) (o : Bool) (out : List Stk)
def lineP (p : PSt) (a b : Int) : PSt := { p with x := p.x + a, y := p.y + b, out := p.out ++ [stk1 1 (p.x + a) (p.y + b)] }
def curveP (p : PSt) (a b c d e f : Int) : PSt := { p with x := p.x + a + c + e, y := p.y + b + d + f, out := p.out ++ [stk3 3 (p.x + a) (p.y + b) (p.x + a + c) (p.y + b + d) (p.x + a + c + e) (p.y + b + d + f)] }
def closeP (p : PSt) : PSt := { p with o := false, out := cloOut (clo p.o p.x p.y p.fx p.fy) p.fx p.fy p.out }
def moveP (p : PSt) (a b : Int) : PSt := ⟨p.x + a, p.y + b, p.x + a, p.y + b, true, (closeP p).out ++ [stk1 0 (p.x + a) (p.y + b)]⟩
def linesP : PSt → List Int → PSt
  | p, a :: b :: r => linesP (lineP p a b) r
  | p, _ => p
def curvesP : PSt → List Int → PSt
  | p, a :: b :: c :: d :: e :: f :: r => curvesP (curveP p a b c d e f) r
  | p, _ => p
/-- All coordinates within a bound. -/
structure PSt.Bd (p : PSt) (M : Nat) : Prop where
  x : p.x.natAbs ≤ M
  y : p.y.natAbs ≤ M
  fx : p.fx.natAbs ≤ M
  fy : p.fy.natAbs ≤ M
/-- An operand: as a charstring can tell it. -/
def Opd (q : Int) : Prop := q.natAbs ≤ 2147483648
theorem lineP_bd {p : PSt} {M : Nat} {a b : Int} (h : p.Bd M) (ha : Opd a) (hb : Opd b) : (lineP p a b).Bd (M + 2147483648) := by
  obtain ⟨h1, h2, h3, h4⟩ := h
  unfold Opd at ha hb
  exact ⟨show (p.x + a).natAbs ≤ _ by omega, show (p.y + b).natAbs ≤ _ by omega, show p.fx.natAbs ≤ _ by omega, show p.fy.natAbs ≤ _ by omega⟩
theorem abs4 {x a c e : Int} {M K : Nat} (h : x.natAbs ≤ M) (ha : a.natAbs ≤ K) (hc : c.natAbs ≤ K) (he : e.natAbs ≤ K) : (x + a).natAbs ≤ M + K ∧ (x + a + c).natAbs ≤ M + 2 * K ∧ (x + a + c + e).natAbs ≤ M + 3 * K := by
  have h1 := Int.natAbs_add_le x a
  have h2 := Int.natAbs_add_le (x + a) c
  have h3 := Int.natAbs_add_le (x + a + c) e
  generalize (x + a).natAbs = u1 at *
  generalize (x + a + c).natAbs = u2 at *
  generalize (x + a + c + e).natAbs = u3 at *
  omega
theorem curveP_bd {p : PSt} {M : Nat} {a b c d e f : Int} (h : p.Bd M) (ha : Opd a) (hb : Opd b) (hc : Opd c) (hd : Opd d) (he : Opd e) (hf : Opd f) : (curveP p a b c d e f).Bd (M + 3 * 2147483648) :=
  ⟨(abs4 h.x ha hc he).2.2, (abs4 h.y hb hd hf).2.2, Nat.le_trans h.fx (Nat.le_add_right _ _), Nat.le_trans h.fy (Nat.le_add_right _ _)⟩
theorem Opd.lt {q : Int} (h : Opd q) : q.natAbs < 2 ^ 53 := by unfold Opd at h; omega
theorem drop2 {α : Type} {l : List α} {k : Nat} (h : k + 1 < l.length) : ∃ a b, l[k]? = some a ∧ l[k + 1]? = some b ∧ l.drop k = a :: b :: l.drop (k + 2) := by
  refine ⟨l[k], l[k + 1], List.getElem?_eq_getElem (by omega), List.getElem?_eq_getElem h, ?_⟩
  rw [List.drop_eq_getElem_cons (by omega), List.drop_eq_getElem_cons h]
theorem mem_at {α : Type} {l : List α} {k : Nat} {a : α} (h : l[k]? = some a) : a ∈ l := List.mem_of_getElem? h
theorem map_at {α β : Type} {l : List α} {f : α → β} {k : Nat} {a : α} (h : l[k]? = some a) : (l.map f)[k]? = some (f a) := by rw [List.getElem?_map, h]; rfl
end Go.Proofs.YtbepljmeflndkaaGreatDoor
namespace Go.Proofs.YtbepljmeflndkaaGreatDoor
open Go.Eng Go.Fl
set_option maxRecDepth 100000
attribute [local irreducible] IntKind.wrap Int.tdiv Int.tmod Int.emod maxLen F G
theorem PSt.Bd.mono {p : PSt} {M N : Nat} (h : p.Bd M) (hn : M ≤ N) : p.Bd N := ⟨Nat.le_trans h.x hn, Nat.le_trans h.y hn, Nat.le_trans h.fx hn, Nat.le_trans h.fy hn⟩
set_option maxHeartbeats 4000000 in
theorem f29_any (w : World) (bC cl M : Nat) (p : PSt) (so : Sv) (rest : List Value) (A : Option Addr) (qs : List Int) (he : qs.length % 2 = 0) (hn : qs.length ≤ 48) (hq : ∀ q ∈ qs, Opd q) (hB0 : p.Bd M) (hM : M + 50 * 2147483648 < 2 ^ 53) (hok : slOk so p.out.length 7 (encS p.out)) (hlen : p.out.length ≤ 80000) (hR : RdF w (((bC, slV so p.out.length :: .float .f64 (F p.x) :: .float .f64 (F p.y) :: .bool p.o :: .float .f64 (F p.fx) :: .float .f64 (F p.fy) :: rest, 46) :: slH so (encS p.out) 34).map (·.1)) A (qs.map F)) (hw : Hp w (((bC, slV so p.out.length :: .float .f64 (F p.x) :: .float .f64 (F p.y) :: .bool p.o :: .float .f64 (F p.fx) :: .float .f64 (F p.fy) :: rest, 46) :: slH so (encS p.out) 34).map (·.1)) ((bC, slV so p.out.length :: .float .f64 (F p.x) :: .float .f64 (F p.y) :: .bool p.o :: .float .f64 (F p.fx) :: .float .f64 (F p.fy) :: rest, 46) :: slH so (encS p.out) 34) w) : Calls Tryz.prog 29 [.pointer (some ⟨bC, 0, none⟩), .slice A qs.length cl].toArray w (Out w (((bC, slV so p.out.length :: .float .f64 (F p.x) :: .float .f64 (F p.y) :: .bool p.o :: .float .f64 (F p.fx) :: .float .f64 (F p.fy) :: rest, 46) :: slH so (encS p.out) 34).map (·.1)) (fun z : Sv => slOk z (linesP p qs).out.length 7 (encS (linesP p qs).out)) (fun z => .tuple #[]) (fun z => (bC, slV z (linesP p qs).out.length :: .float .f64 (F (linesP p qs).x) :: .float .f64 (F (linesP p qs).y) :: .bool (linesP p qs).o :: .float .f64 (F (linesP p qs).fx) :: .float .f64 (F (linesP p qs).fy) :: rest, 46) :: slH z (encS (linesP p qs).out) 34)) := by
 obtain ⟨pA, rfl, hpb, hpS, hpc⟩ := hR
 refine enter (n := 24) Tryz.func29 rfl rfl rfl hw ?_
 refine cR ?_
 refine lA rfl ?_
 refine nQ ?_
 refine c_block ?_
 refine c_loop (ι := Nat × PSt × Sv) (φ := fun z => z.1 ≤ qs.length ∧ z.1 % 2 = 0 ∧ linesP z.2.1 (qs.drop z.1) = linesP p qs ∧ z.2.1.Bd (M + z.1 * 2147483648) ∧ slOk z.2.2 z.2.1.out.length 7 (encS z.2.1.out) ∧ z.2.1.out.length ≤ p.out.length + z.1) (L' := fun z => [(0, .pointer (some ⟨bC, 0, none⟩)), (1, .slice (some pA) qs.length cl), (4, .int .i64 (z.1 : Int))]) (H' := fun z => (bC, slV z.2.2 z.2.1.out.length :: .float .f64 (F z.2.1.x) :: .float .f64 (F z.2.1.y) :: .bool z.2.1.o :: .float .f64 (F z.2.1.fx) :: .float .f64 (F z.2.1.fy) :: rest, 46) :: slH z.2.2 (encS z.2.1.out) 34) (fun z => qs.length - z.1) (0, p, so) ⟨Nat.zero_le _, rfl, rfl, by simpa using hB0, hok, Nat.le_refl _⟩ ⟨rfl, rfl, rfl, trivial⟩ (.cons .here .refl) ?_
 intro ⟨k, p1, so1⟩ ⟨hk, hke, hE, hB, hok1, hol⟩
 simp only at hk hke hE hB hok1 hol ⊢
 refine c_seq ?_
 refine cR ?_
 refine lM rfl ?_
 refine lM rfl ?_
 refine lV (y_len sl_44 rfl) ?_
 refine lB rfl rfl rfl rfl ?_
 refine nQ ?_
 refine c_cond rfl (fun hc8 => ?_) (fun hc8 => ?_)
 ·have hk2 : k < qs.length := by simp only [decide_eq_true_eq] at hc8; omega
  obtain ⟨a, b, h1, h2, hd⟩ := drop2 (l := qs) (k := k) (by omega)
  have hB2 := lineP_bd hB (hq a (mem_at h1)) (hq b (mem_at h2))
  have hB3 : (lineP p1 a b).Bd (M + (k + 2) * 2147483648) := hB2.mono (by omega)
  refine kQ ?_
  refine c_seq ?_
  refine c_block ?_
  refine c_draw [] mixed rfl ?_
  refine dM 0 rfl rfl ?_
  refine dN 1 rfl rfl ?_
  refine dV 2 rfl (y_fieldAddr fo_46_0 rfl) ?_
  refine dM 3 rfl rfl ?_
  refine dM 4 rfl rfl ?_
  refine dV 5 rfl (y_indexAddr (j := k) es_44 rfl rfl (by omega)) ?_
  refine dV 6 rfl (y_oldLoad1 ld_41 rfl (by rw [block_add]; exact hpb) (by rw [block_add]; exact hpS) (hpc _ _ (map_at h1))) ?_
  refine dM 7 rfl rfl ?_
  refine dM 8 rfl rfl ?_
  refine dV 9 rfl (y_bin rfl rfl rfl (fitN (m := k + 1) (by omega) (by omega))) ?_
  refine dV 10 rfl (y_indexAddr (j := k + 1) es_44 rfl rfl (by omega)) ?_
  refine dV 11 rfl (y_oldLoad1 ld_41 rfl (by rw [block_add]; exact hpb) (by rw [block_add]; exact hpS) (hpc _ _ (map_at h2))) ?_
  refine d_ready (i := 12) (rs := []) (by kernel_rfl) .nil (all_one ?_)
  refine o_call rfl (no_guard rfl) ok_30 rfl rfl (out_all (H1 := (bC, slV so1 p1.out.length :: .float .f64 (F p1.x) :: .float .f64 (F p1.y) :: .bool p1.o :: .float .f64 (F p1.fx) :: .float .f64 (F p1.fy) :: rest, 46) :: slH so1 (encS p1.out) 34) (fun w1 ha hb => f30_any w1 bC p1.x p1.y p1.fx p1.fy a b (F a) (F b) p1.o p1.out so1 rest (by have := hB.x; omega) (by have := hB.y; omega) (RF_F (hq a (mem_at h1)).lt) (RF_F (hq b (mem_at h2)).lt) (by have := hB2.x; unfold lineP at this; simp only at this; omega) (by have := hB2.y; unfold lineP at this; simp only at this; omega) hok1 (by omega) hb)) ?_
  intro so2 hok2
  refine d_end (by kernel_rfl) .nil ?_
  refine q_block ?_
  refine qG ?_
  refine lM rfl ?_
  refine lV (y_bin rfl rfl rfl (fitN (m := k + 2) (by omega) (by omega))) ?_
  refine lA rfl ?_
  refine l_nil ?_
  exact q_rnd (k + 2, lineP p1 a b, so2) ⟨by simp only; omega, by simp only; omega, by rw [← hE, hd]; rfl, hB3, hok2, by simp [lineP]; omega⟩ (by simp only; omega) ⟨rfl, rfl, rfl, trivial⟩ (.cons .here .refl)
 ·have hd : qs.drop k = [] := List.drop_of_length_le (by simp only [decide_eq_false_iff_not] at hc8; omega)
  rw [hd] at hE
  have hE2 : p1 = linesP p qs := hE
  subst hE2
  refine c_exit ?_
  refine q_then_exit ?_
  refine q_rnd_exit ?_
  refine q_block_exit ?_
  exact body_ret (rs := []) rfl (vs := []) trivial (out_end so1 hok1 rfl (.cons .here .refl)) _ (.inl rfl)
theorem RdF.into {w0 w : World} {S : List Nat} {H : Heap} {A : Option Addr} {ws : List Nat} (h : RdF w0 S A ws) (hw : Hp w0 S H w) : RdF w (H.map (·.1)) A ws := by
  obtain ⟨p, rfl, hb, hS, hc⟩ := h
  refine ⟨p, rfl, Nat.lt_of_lt_of_le hb hw.size, ?_, fun i u hu => ?_⟩
  · intro hm
    obtain ⟨⟨g, cs, e⟩, hg, he⟩ := List.mem_map.1 hm
    simp only at he
    rcases (hw.blk g cs e hg).2 with h1 | h1
    · exact hS (he ▸ h1)
    · omega
  · rw [hw.oldCell (by rw [block_add]; exact hb) (by rw [block_add]; exact hS)]
    exact hc i u hu
theorem RdF.at6 {w : World} {S : List Nat} {pA : Addr} {qs : List Int} {k cl : Nat} {a b c d e f : Int} (h : RdF w S (some pA) (qs.map F)) (hcl : cl ≠ k) (hd : qs.drop k = a :: b :: c :: d :: e :: f :: qs.drop (k + 6)) :
    RdF w S (some (if cl = k then pA else pA.add (k * 1))) (F a :: F b :: F c :: F d :: F e :: F f :: (qs.drop (k + 6)).map F) := by
  obtain ⟨p, hp, hb, hS, hc⟩ := h
  injection hp with hp
  subst hp
  rw [if_neg hcl]
  refine ⟨_, rfl, by rw [block_add]; exact hb, by rw [block_add]; exact hS, fun i u hu => ?_⟩
  have e1 : (F a :: F b :: F c :: F d :: F e :: F f :: (qs.drop (k + 6)).map F) = (qs.map F).drop k := by rw [← List.map_drop, hd]; rfl
  rw [e1, List.getElem?_drop] at hu
  rw [add_add, ← Nat.add_mul]
  exact hc _ _ hu
theorem drop6 {l : List Int} {k : Nat} (hq : ∀ q ∈ l, Opd q) (h : k + 5 < l.length) : ∃ a b c d e f, l.drop k = a :: b :: c :: d :: e :: f :: l.drop (k + 6) ∧ Opd a ∧ Opd b ∧ Opd c ∧ Opd d ∧ Opd e ∧ Opd f := by
  refine ⟨l[k], l[k + 1], l[k + 2], l[k + 3], l[k + 4], l[k + 5], ?_, hq _ (List.getElem_mem _), hq _ (List.getElem_mem _), hq _ (List.getElem_mem _), hq _ (List.getElem_mem _), hq _ (List.getElem_mem _), hq _ (List.getElem_mem _)⟩
  rw [List.drop_eq_getElem_cons (by omega), List.drop_eq_getElem_cons (by omega), List.drop_eq_getElem_cons (by omega), List.drop_eq_getElem_cons (by omega), List.drop_eq_getElem_cons (by omega), List.drop_eq_getElem_cons (by omega)]
set_option maxHeartbeats 4000000 in
theorem f21_any (w : World) (bC cl M : Nat) (p : PSt) (so : Sv) (rest : List Value) (A : Option Addr) (qs : List Int) (he : qs.length % 6 = 0) (hcl : qs.length ≤ cl) (hn : qs.length ≤ 48) (hq : ∀ q ∈ qs, Opd q) (hB0 : p.Bd M) (hM : M + 60 * 2147483648 < 2 ^ 53) (hok : slOk so p.out.length 7 (encS p.out)) (hlen : p.out.length ≤ 80000) (hR : RdF w (((bC, slV so p.out.length :: .float .f64 (F p.x) :: .float .f64 (F p.y) :: .bool p.o :: .float .f64 (F p.fx) :: .float .f64 (F p.fy) :: rest, 46) :: slH so (encS p.out) 34).map (·.1)) A (qs.map F)) (hw : Hp w (((bC, slV so p.out.length :: .float .f64 (F p.x) :: .float .f64 (F p.y) :: .bool p.o :: .float .f64 (F p.fx) :: .float .f64 (F p.fy) :: rest, 46) :: slH so (encS p.out) 34).map (·.1)) ((bC, slV so p.out.length :: .float .f64 (F p.x) :: .float .f64 (F p.y) :: .bool p.o :: .float .f64 (F p.fx) :: .float .f64 (F p.fy) :: rest, 46) :: slH so (encS p.out) 34) w) : Calls Tryz.prog 21 [.pointer (some ⟨bC, 0, none⟩), .slice A qs.length cl].toArray w (Out w (((bC, slV so p.out.length :: .float .f64 (F p.x) :: .float .f64 (F p.y) :: .bool p.o :: .float .f64 (F p.fx) :: .float .f64 (F p.fy) :: rest, 46) :: slH so (encS p.out) 34).map (·.1)) (fun z : Sv => slOk z (curvesP p qs).out.length 7 (encS (curvesP p qs).out)) (fun z => .tuple #[]) (fun z => (bC, slV z (curvesP p qs).out.length :: .float .f64 (F (curvesP p qs).x) :: .float .f64 (F (curvesP p qs).y) :: .bool (curvesP p qs).o :: .float .f64 (F (curvesP p qs).fx) :: .float .f64 (F (curvesP p qs).fy) :: rest, 46) :: slH z (encS (curvesP p qs).out) 34)) := by
 have hR0 := hR
 obtain ⟨pA, rfl, _, _, _⟩ := hR0
 refine enter (n := 20) Tryz.func21 rfl rfl rfl hw ?_
 refine cR ?_
 refine lA rfl ?_
 refine nQ ?_
 refine c_block ?_
 refine c_loop (ι := Nat × PSt × Sv) (φ := fun z => z.1 ≤ qs.length ∧ z.1 % 6 = 0 ∧ curvesP z.2.1 (qs.drop z.1) = curvesP p qs ∧ z.2.1.Bd (M + z.1 * 2147483648) ∧ slOk z.2.2 z.2.1.out.length 7 (encS z.2.1.out) ∧ z.2.1.out.length ≤ p.out.length + z.1) (L' := fun z => [(0, .pointer (some ⟨bC, 0, none⟩)), (1, .slice (some pA) qs.length cl), (4, .int .i64 (z.1 : Int))]) (H' := fun z => (bC, slV z.2.2 z.2.1.out.length :: .float .f64 (F z.2.1.x) :: .float .f64 (F z.2.1.y) :: .bool z.2.1.o :: .float .f64 (F z.2.1.fx) :: .float .f64 (F z.2.1.fy) :: rest, 46) :: slH z.2.2 (encS z.2.1.out) 34) (fun z => qs.length - z.1) (0, p, so) ⟨Nat.zero_le _, rfl, rfl, by simpa using hB0, hok, Nat.le_refl _⟩ ⟨rfl, rfl, rfl, trivial⟩ (.cons .here .refl) ?_
 intro ⟨k, p1, so1⟩ ⟨hk, hke, hE, hB, hok1, hol⟩
 simp only at hk hke hE hB hok1 hol ⊢
 refine c_seq ?_
 refine cR ?_
 refine lM rfl ?_
 refine lM rfl ?_
 refine lV (y_len sl_44 rfl) ?_
 refine lB rfl rfl rfl rfl ?_
 refine nQ ?_
 refine c_cond rfl (fun hc8 => ?_) (fun hc8 => ?_)
 ·have hk2 : k < qs.length := by simp only [decide_eq_true_eq] at hc8; omega
  obtain ⟨a, b, c, d, e, f, hd, qa, qb, qc, qd, qe, qf⟩ := drop6 (l := qs) (k := k) hq (by omega)
  have hB2 := curveP_bd hB qa qb qc qd qe qf
  obtain ⟨hx0, hx1, hx2⟩ := abs4 hB.x qa qc qe
  obtain ⟨hy0, hy1, hy2⟩ := abs4 hB.y qb qd qf
  have hB3 : (curveP p1 a b c d e f).Bd (M + (k + 6) * 2147483648) := hB2.mono (by omega)
  refine kQ ?_
  refine c_seq ?_
  refine c_block ?_
  refine c_draw [] mixed rfl ?_
  refine dM 0 rfl rfl ?_
  refine dN 1 rfl rfl ?_
  refine dV 2 rfl (y_fieldAddr fo_46_0 rfl) ?_
  refine dM 3 rfl rfl ?_
  refine dM 4 rfl rfl ?_
  refine dM 5 rfl rfl ?_
  refine dV 6 rfl (y_bin rfl rfl rfl (fitN (m := k + 6) (by omega) (by omega))) ?_
  refine dV 7 rfl (y_sliceLHe es_44 rfl rfl rfl (by omega) (by omega)) ?_
  refine d_ready (i := 8) (rs := []) (by kernel_rfl) .nil (all_one ?_)
  refine o_call rfl (no_guard rfl) ok_22 rfl rfl (out_all (H1 := (bC, slV so1 p1.out.length :: .float .f64 (F p1.x) :: .float .f64 (F p1.y) :: .bool p1.o :: .float .f64 (F p1.fx) :: .float .f64 (F p1.fy) :: rest, 46) :: slH so1 (encS p1.out) 34) (fun w1 ha hb => f22_any w1 bC (k + 6 - k) (cl - k) p1.x p1.y p1.fx p1.fy a b c d e f (F a) (F b) (F c) (F d) (F e) (F f) ((qs.drop (k + 6)).map F) p1.o p1.out so1 rest _ (by have := hB.x; omega) (by have := hB.y; omega) (RF_F qa.lt) (RF_F qb.lt) (RF_F qc.lt) (RF_F qd.lt) (RF_F qe.lt) (RF_F qf.lt) (by omega) (by omega) (by omega) (by omega) (by omega) (by omega) (by omega) hok1 (by omega) (RdF.at6 (hR.into ha) (by omega) hd) hb)) ?_
  intro so2 hok2
  refine d_end (by kernel_rfl) .nil ?_
  refine q_block ?_
  refine qG ?_
  refine lM rfl ?_
  refine lV (y_bin rfl rfl rfl (fitN (m := k + 6) (by omega) (by omega))) ?_
  refine lA rfl ?_
  refine l_nil ?_
  exact q_rnd (k + 6, curveP p1 a b c d e f, so2) ⟨by simp only; omega, by simp only; omega, by rw [← hE, hd]; rfl, hB3, hok2, by simp [curveP]; omega⟩ (by simp only; omega) ⟨rfl, rfl, rfl, trivial⟩ (.cons .here .refl)
 ·have hd : qs.drop k = [] := List.drop_of_length_le (by simp only [decide_eq_false_iff_not] at hc8; omega)
  rw [hd] at hE
  have hE2 : p1 = curvesP p qs := hE
  subst hE2
  refine c_exit ?_
  refine q_then_exit ?_
  refine q_rnd_exit ?_
  refine q_block_exit ?_
  exact body_ret (rs := []) rfl (vs := []) trivial (out_end so1 hok1 rfl (.cons .here .refl)) _ (.inl rfl)
end Go.Proofs.YtbepljmeflndkaaGreatDoor
namespace Go.Proofs.YtbepljmeflndkaaGreatDoor
open Go.Eng Go.Fl
def straightP (lv : Bool) : PSt → Int → List Int → PSt
  | p, q0, a :: b :: c :: d :: r => straightP lv (bif lv then curveP p a q0 b c d 0 else curveP p q0 a b c 0 d) 0 r
  | p, _, _ => p
def straightS (lv : Bool) (p : PSt) (qs : List Int) : PSt := bif qs.length % 4 == 1 then straightP lv p (qs.headD 0) qs.tail else straightP lv p 0 qs
def turningP : Bool → PSt → List Int → PSt
  | lv, p, [a, b, c, d, e] => bif lv then curveP p a 0 b c e d else curveP p 0 a b c d e
  | lv, p, a :: b :: c :: d :: r => turningP (!lv) (bif lv then curveP p a 0 b c 0 d else curveP p 0 a b c d 0) r
  | _, p, _ => p
theorem remV {n : Nat} (k : Nat) {z : Int} (hz : z = k) : Value.int .i64 ((n : Int).tmod z) = .int .i64 ((n % k : Nat) : Int) := by subst hz; rfl
theorem quoV {n : Nat} (k : Nat) {z : Int} (hz : z = k) (hn : n ≤ 9223372036854775807) : Value.int .i64 (IntKind.i64.wrap ((n : Int).tdiv z)) = .int .i64 ((n / k : Nat) : Int) := by
  subst hz
  have h : (n : Int).tdiv (k : Int) = ((n / k : Nat) : Int) := rfl
  rw [h]
  have := Nat.div_le_self n k
  exact fitN rfl (by omega)
theorem Opd_zero : Opd 0 := by unfold Opd; decide
theorem RF_zero : RF 0 0 := by
  have h := RF_F (q := 0) (by decide)
  rw [F_zero] at h
  exact h
theorem drop4 {l : List Int} {k : Nat} (hq : ∀ q ∈ l, Opd q) (h : k + 3 < l.length) : ∃ a b c d, l[k]? = some a ∧ l[k + 1]? = some b ∧ l[k + 2]? = some c ∧ l[k + 3]? = some d ∧ l.drop k = a :: b :: c :: d :: l.drop (k + 4) ∧ Opd a ∧ Opd b ∧ Opd c ∧ Opd d := by
  refine ⟨l[k], l[k + 1], l[k + 2], l[k + 3], List.getElem?_eq_getElem _, List.getElem?_eq_getElem _, List.getElem?_eq_getElem _, List.getElem?_eq_getElem _, ?_, hq _ (List.getElem_mem _), hq _ (List.getElem_mem _), hq _ (List.getElem_mem _), hq _ (List.getElem_mem _)⟩
  rw [List.drop_eq_getElem_cons (by omega), List.drop_eq_getElem_cons (by omega), List.drop_eq_getElem_cons (by omega), List.drop_eq_getElem_cons (by omega)]
end Go.Proofs.YtbepljmeflndkaaGreatDoor
namespace Go.Proofs.YtbepljmeflndkaaGreatDoor
open Go.Eng Go.Fl
set_option maxRecDepth 100000
attribute [local irreducible] IntKind.wrap Int.tdiv Int.tmod Int.emod maxLen F G
theorem RdF.dropN {w : World} {S : List Nat} {p : Addr} {ws : List Nat} {k cl : Nat} (h : RdF w S (some p) ws) (h1 : k ≤ ws.length) (h2 : ws.length ≤ cl) : RdF w S (some (if cl = k then p else p.add (k * 1))) (ws.drop k) := by
  obtain ⟨q, hq, hb, hS, hc⟩ := h
  injection hq with hq
  subst hq
  by_cases hk : cl = k
  · rw [if_pos hk]
    refine ⟨p, rfl, hb, hS, fun i u hu => ?_⟩
    rw [List.drop_of_length_le (by omega)] at hu
    simp at hu
  · rw [if_neg hk]
    refine ⟨_, rfl, by rw [block_add]; exact hb, by rw [block_add]; exact hS, fun i u hu => ?_⟩
    rw [List.getElem?_drop] at hu
    rw [add_add, ← Nat.add_mul]
    exact hc _ _ hu
theorem RdF_own6 {w0 w : World} {S : List Nat} {b : Nat} {i0 i1 i2 i3 i4 i5 : Nat} {sp : List Value} {e : TypeId} {H1 : Heap} (h : Hp w0 S ((b, .float .f64 i0 :: .float .f64 i1 :: .float .f64 i2 :: .float .f64 i3 :: .float .f64 i4 :: .float .f64 i5 :: sp, e) :: H1) w) :
    RdF w (H1.map (·.1)) (some ⟨b, 0, none⟩) [i0, i1, i2, i3, i4, i5] := by
  refine ⟨_, rfl, h.lt (.head _), not_ids h, fun i q hq => ?_⟩
  rw [Nat.mul_one, Addr.add_lit, h.cell (.head _)]
  match i, hq with
  | 0, hq => simp at hq; subst hq; rfl
  | 1, hq => simp at hq; subst hq; rfl
  | 2, hq => simp at hq; subst hq; rfl
  | 3, hq => simp at hq; subst hq; rfl
  | 4, hq => simp at hq; subst hq; rfl
  | 5, hq => simp at hq; subst hq; rfl
  | i + 6, hq => simp at hq
set_option maxHeartbeats 4000000 in
theorem f31_any (w : World) (bC cl M : Nat) (lv : Bool) (p : PSt) (so : Sv) (rest : List Value) (A : Option Addr) (qs : List Int) (h4n : 4 ≤ qs.length) (h4m : qs.length % 4 < 2) (hcl : qs.length ≤ cl) (hn : qs.length ≤ 48) (hq : ∀ q ∈ qs, Opd q) (hB0 : p.Bd M) (hM : M + 60 * 2147483648 < 2 ^ 53) (hok : slOk so p.out.length 7 (encS p.out)) (hlen : p.out.length ≤ 80000) (hR : RdF w (((bC, slV so p.out.length :: .float .f64 (F p.x) :: .float .f64 (F p.y) :: .bool p.o :: .float .f64 (F p.fx) :: .float .f64 (F p.fy) :: rest, 46) :: slH so (encS p.out) 34).map (·.1)) A (qs.map F)) (hw : Hp w (((bC, slV so p.out.length :: .float .f64 (F p.x) :: .float .f64 (F p.y) :: .bool p.o :: .float .f64 (F p.fx) :: .float .f64 (F p.fy) :: rest, 46) :: slH so (encS p.out) 34).map (·.1)) ((bC, slV so p.out.length :: .float .f64 (F p.x) :: .float .f64 (F p.y) :: .bool p.o :: .float .f64 (F p.fx) :: .float .f64 (F p.fy) :: rest, 46) :: slH so (encS p.out) 34) w) : Calls Tryz.prog 31 [.pointer (some ⟨bC, 0, none⟩), .slice A qs.length cl, .bool lv].toArray w (Out w (((bC, slV so p.out.length :: .float .f64 (F p.x) :: .float .f64 (F p.y) :: .bool p.o :: .float .f64 (F p.fx) :: .float .f64 (F p.fy) :: rest, 46) :: slH so (encS p.out) 34).map (·.1)) (fun z : Sv => slOk z (straightS lv p qs).out.length 7 (encS (straightS lv p qs).out)) (fun z => .tuple #[]) (fun z => (bC, slV z (straightS lv p qs).out.length :: .float .f64 (F (straightS lv p qs).x) :: .float .f64 (F (straightS lv p qs).y) :: .bool (straightS lv p qs).o :: .float .f64 (F (straightS lv p qs).fx) :: .float .f64 (F (straightS lv p qs).fy) :: rest, 46) :: slH z (encS (straightS lv p qs).out) 34)) := by
 obtain ⟨pA, rfl, hpb, hpS, hpc⟩ := id hR
 refine enter (n := 74) Tryz.func31 rfl rfl rfl hw ?_
 refine cR ?_
 refine lA rfl ?_
 refine nQ ?_
 refine c_seq ?_
 refine cR ?_
 refine lM rfl ?_
 refine lV (y_len sl_44 rfl) ?_
 refine lV (y_rem rfl rfl (by decide) (remV 4 rfl)) ?_
 refine lB rfl rfl rfl rfl ?_
 refine nQ ?_
 refine c_cut (ι := Addr × Nat × Nat × Int × List Int) (φ := fun z => RdF w ((((bC, slV so p.out.length :: .float .f64 (F p.x) :: .float .f64 (F p.y) :: .bool p.o :: .float .f64 (F p.fx) :: .float .f64 (F p.fy) :: rest, 46) :: slH so (encS p.out) 34).map (·.1))) (some z.1) (z.2.2.2.2.map F) ∧ z.2.2.2.2.length % 4 = 0 ∧ z.2.2.2.2.length ≤ 48 ∧ (∀ q ∈ z.2.2.2.2, Opd q) ∧ RF z.2.2.1 z.2.2.2.1 ∧ Opd z.2.2.2.1 ∧ straightP lv p z.2.2.2.1 z.2.2.2.2 = straightS lv p qs) (L' := fun z => [(0, .pointer (some ⟨bC, 0, none⟩)), (1, .slice (some z.1) z.2.2.2.2.length z.2.1), (2, .bool lv), (6, .float .f64 z.2.2.1)]) (H' := fun _ => (bC, slV so p.out.length :: .float .f64 (F p.x) :: .float .f64 (F p.y) :: .bool p.o :: .float .f64 (F p.fx) :: .float .f64 (F p.fy) :: rest, 46) :: slH so (encS p.out) 34) ?_ ?_
 ·refine c_cond rfl (fun hc11 => ?_) (fun hc11 => ?_)
  ·have h4 : qs.length % 4 = 1 := by simp only [beq_iff_eq] at hc11; omega
   obtain ⟨q0, qr, rfl⟩ : ∃ q0 qr, qs = q0 :: qr := List.exists_cons_of_length_pos (by omega)
   have hq0 : (q0 :: qr)[0]? = some q0 := rfl
   have hcl0 := hcl
   simp only [List.length_cons] at h4 hn h4n hcl
   refine c_drawH mixed rfl ?_
   refine dM 0 rfl rfl ?_
   refine dV 1 rfl (y_indexAddr (j := 0) es_44 rfl rfl (by simp)) ?_
   refine dV 2 rfl (y_oldLoad1 ld_41 rfl (by rw [block_add]; exact hpb) (by rw [block_add]; exact hpS) (hpc 0 _ (map_at hq0))) ?_
   refine dM 3 rfl rfl ?_
   refine dV 4 rfl (y_sliceLo (i := 1) es_44 rfl rfl (by simp) hcl0) ?_
   refine dV 5 rfl (y_assign rfl) ?_
   refine dV 6 rfl (y_assign rfl) ?_
   refine d_end (by kernel_rfl) (.cons .here .refl) ?_
   exact q_cut (_, cl - 1, F q0, q0, qr) ⟨RdF.dropN (k := 1) hR (by simp) (by rw [List.length_map]; exact hcl0), by simp only; omega, by simp only; omega, fun q hq1 => hq q (List.mem_cons_of_mem _ hq1), RF_F (hq q0 (List.mem_cons_self ..)).lt, hq q0 (List.mem_cons_self ..), by unfold straightS; rw [List.length_cons, h4]; rfl⟩ ⟨rfl, rfl, rfl, rfl, trivial⟩ (.cons .here .refl)
  ·have h4 : qs.length % 4 = 0 := by simp only [beq_eq_false_iff_ne] at hc11; omega
   refine c_skip ?_
   exact q_cut (pA, cl, 0, 0, qs) ⟨hR, h4, hn, hq, RF_zero, Opd_zero, by unfold straightS; rw [h4]; rfl⟩ ⟨rfl, rfl, rfl, rfl, trivial⟩ (.cons .here .refl)
 intro ⟨pB, cB, i0, q0, qt⟩ ⟨hRB, hm4, hnt, hqt, hi0, hq0, hES⟩
 simp only at hRB hm4 hnt hqt hi0 hq0 hES ⊢
 obtain ⟨pB2, hpB2, hpb2, hpS2, hpc2⟩ := hRB
 injection hpB2 with hpB2
 subst hpB2
 refine qR ?_
 refine lA rfl ?_
 refine nQ ?_
 refine c_block ?_
 refine c_loop (ι := Nat × PSt × Sv × Nat × Int) (φ := fun z => z.1 ≤ qt.length ∧ z.1 % 4 = 0 ∧ straightP lv z.2.1 z.2.2.2.2 (qt.drop z.1) = straightS lv p qs ∧ z.2.1.Bd (M + z.1 * 2147483648) ∧ slOk z.2.2.1 z.2.1.out.length 7 (encS z.2.1.out) ∧ z.2.1.out.length ≤ p.out.length + z.1 ∧ RF z.2.2.2.1 z.2.2.2.2 ∧ Opd z.2.2.2.2) (L' := fun z => [(0, .pointer (some ⟨bC, 0, none⟩)), (1, .slice (some pB) qt.length cB), (2, .bool lv), (6, .float .f64 z.2.2.2.1), (7, .int .i64 (z.1 : Int))]) (H' := fun z => (bC, slV z.2.2.1 z.2.1.out.length :: .float .f64 (F z.2.1.x) :: .float .f64 (F z.2.1.y) :: .bool z.2.1.o :: .float .f64 (F z.2.1.fx) :: .float .f64 (F z.2.1.fy) :: rest, 46) :: slH z.2.2.1 (encS z.2.1.out) 34) (fun z => qt.length - z.1) (0, p, so, i0, q0) ⟨Nat.zero_le _, rfl, hES, by simpa using hB0, hok, Nat.le_refl _, hi0, hq0⟩ ⟨rfl, rfl, rfl, rfl, rfl, trivial⟩ (.cons .here .refl) ?_
 intro ⟨k, p1, so1, i1, q1⟩ ⟨hk, hke, hE, hB, hok1, hol, hr1, hq1⟩
 simp only at hk hke hE hB hok1 hol hr1 hq1 ⊢
 refine c_seq ?_
 refine cR ?_
 refine lM rfl ?_
 refine lM rfl ?_
 refine lV (y_len sl_44 rfl) ?_
 refine lB rfl rfl rfl rfl ?_
 refine nQ ?_
 refine c_cond rfl (fun hc20 => ?_) (fun hc20 => ?_)
 ·have hk2 : k < qt.length := by simp only [decide_eq_true_eq] at hc20; omega
  obtain ⟨a, b, c, d, h1, h2, h3, h4, hd, qa, qb, qc, qd⟩ := drop4 (l := qt) (k := k) hqt (by omega)
  refine kQ ?_
  refine c_seq ?_
  refine c_block ?_
  refine c_seq ?_
  refine cR ?_
  refine lM rfl ?_
  refine nQ ?_
  refine c_cond rfl (fun hc23 => ?_) (fun hc23 => ?_)
  ·subst hc23
   have hB2 := curveP_bd hB qa hq1 qb qc qd Opd_zero
   obtain ⟨hx0, hx1, hx2⟩ := abs4 hB.x qa qb qd
   obtain ⟨hy0, hy1, hy2⟩ := abs4 hB.y hq1 qc Opd_zero
   have hB3 : (curveP p1 a q1 b c d 0).Bd (M + (k + 4) * 2147483648) := hB2.mono (by omega)
   refine c_draw [] mixed rfl ?_
   refine dM 0 rfl rfl ?_
   refine dN 1 rfl rfl ?_
   refine dV 2 rfl (y_fieldAddr fo_46_0 rfl) ?_
   refine dM 3 rfl rfl ?_
   refine dM 4 rfl rfl ?_
   refine dV 5 rfl (y_indexAddr (j := k) es_44 rfl rfl (by omega)) ?_
   refine dV 6 rfl (y_oldLoad1 ld_41 rfl (by rw [block_add]; exact hpb2) (by rw [block_add]; exact hpS2) (hpc2 _ _ (map_at h1))) ?_
   refine dM 7 rfl rfl ?_
   refine dM 8 rfl rfl ?_
   refine dM 9 rfl rfl ?_
   refine dV 10 rfl (y_bin rfl rfl rfl (fitN (m := k + 1) (by omega) (by omega))) ?_
   refine dV 11 rfl (y_indexAddr (j := k + 1) es_44 rfl rfl (by omega)) ?_
   refine dV 12 rfl (y_oldLoad1 ld_41 rfl (by rw [block_add]; exact hpb2) (by rw [block_add]; exact hpS2) (hpc2 _ _ (map_at h2))) ?_
   refine dM 13 rfl rfl ?_
   refine dM 14 rfl rfl ?_
   refine dV 15 rfl (y_bin rfl rfl rfl (fitN (m := k + 2) (by omega) (by omega))) ?_
   refine dV 16 rfl (y_indexAddr (j := k + 2) es_44 rfl rfl (by omega)) ?_
   refine dV 17 rfl (y_oldLoad1 ld_41 rfl (by rw [block_add]; exact hpb2) (by rw [block_add]; exact hpS2) (hpc2 _ _ (map_at h3))) ?_
   refine dM 18 rfl rfl ?_
   refine dM 19 rfl rfl ?_
   refine dV 20 rfl (y_bin rfl rfl rfl (fitN (m := k + 3) (by omega) (by omega))) ?_
   refine dV 21 rfl (y_indexAddr (j := k + 3) es_44 rfl rfl (by omega)) ?_
   refine dV 22 rfl (y_oldLoad1 ld_41 rfl (by rw [block_add]; exact hpb2) (by rw [block_add]; exact hpS2) (hpc2 _ _ (map_at h4))) ?_
   refine d_ready (i := 23) (rs := []) (by kernel_rfl) .nil (all_one ?_)
   refine o_gives rfl rfl rfl (g_buildSlice (cs := [_, _, _, _, _, _]) sl_44 sz_41 ze_41 rfl rfl rfl rfl (by simp [Value.cells]) rfl rfl) rfl ?_
   intro b47 hb47
   refine d_ready (i := 24) (rs := []) (by kernel_rfl) .nil (all_one ?_)
   refine o_call rfl (no_guard rfl) ok_22 rfl rfl (out_tail (A := [_]) (H1 := (bC, slV so1 p1.out.length :: .float .f64 (F p1.x) :: .float .f64 (F p1.y) :: .bool p1.o :: .float .f64 (F p1.fx) :: .float .f64 (F p1.fy) :: rest, 46) :: slH so1 (encS p1.out) 34) (fun w1 ha hb => f22_any w1 bC 6 6 p1.x p1.y p1.fx p1.fy a q1 b c d 0 (F a) i1 (F b) (F c) (F d) 0 [] p1.o p1.out so1 rest _ (by have := hB.x; omega) (by have := hB.y; omega) (RF_F qa.lt) hr1 (RF_F qb.lt) (RF_F qc.lt) (RF_F qd.lt) RF_zero (by omega) (by omega) (by omega) (by omega) (by omega) (by omega) (by omega) hok1 (by omega) (RdF_own6 ha) hb)) ?_
   intro so2 hok2
   refine d_end (by kernel_rfl) .nil ?_
   refine qG ?_
   refine lA rfl ?_
   refine l_nil ?_
   refine q_block ?_
   refine qG ?_
   refine lM rfl ?_
   refine lV (y_bin rfl rfl rfl (fitN (m := k + 4) (by omega) (by omega))) ?_
   refine lA rfl ?_
   refine l_nil ?_
   exact q_rnd (k + 4, curveP p1 a q1 b c d 0, so2, 0, 0) ⟨by simp only; omega, by simp only; omega, by rw [← hE, hd]; rfl, hB3, hok2, by simp [curveP]; omega, RF_zero, Opd_zero⟩ (by simp only; omega) ⟨rfl, rfl, rfl, rfl, rfl, trivial⟩ (.cons (.there .here) (.skip .refl))
  ·subst hc23
   have hB2 := curveP_bd hB hq1 qa qb qc Opd_zero qd
   obtain ⟨hx0, hx1, hx2⟩ := abs4 hB.x hq1 qb Opd_zero
   obtain ⟨hy0, hy1, hy2⟩ := abs4 hB.y qa qc qd
   have hB3 : (curveP p1 q1 a b c 0 d).Bd (M + (k + 4) * 2147483648) := hB2.mono (by omega)
   refine c_draw [] mixed rfl ?_
   refine dM 0 rfl rfl ?_
   refine dN 1 rfl rfl ?_
   refine dV 2 rfl (y_fieldAddr fo_46_0 rfl) ?_
   refine dM 3 rfl rfl ?_
   refine dM 4 rfl rfl ?_
   refine dM 5 rfl rfl ?_
   refine dV 6 rfl (y_indexAddr (j := k) es_44 rfl rfl (by omega)) ?_
   refine dV 7 rfl (y_oldLoad1 ld_41 rfl (by rw [block_add]; exact hpb2) (by rw [block_add]; exact hpS2) (hpc2 _ _ (map_at h1))) ?_
   refine dM 8 rfl rfl ?_
   refine dM 9 rfl rfl ?_
   refine dV 10 rfl (y_bin rfl rfl rfl (fitN (m := k + 1) (by omega) (by omega))) ?_
   refine dV 11 rfl (y_indexAddr (j := k + 1) es_44 rfl rfl (by omega)) ?_
   refine dV 12 rfl (y_oldLoad1 ld_41 rfl (by rw [block_add]; exact hpb2) (by rw [block_add]; exact hpS2) (hpc2 _ _ (map_at h2))) ?_
   refine dM 13 rfl rfl ?_
   refine dM 14 rfl rfl ?_
   refine dV 15 rfl (y_bin rfl rfl rfl (fitN (m := k + 2) (by omega) (by omega))) ?_
   refine dV 16 rfl (y_indexAddr (j := k + 2) es_44 rfl rfl (by omega)) ?_
   refine dV 17 rfl (y_oldLoad1 ld_41 rfl (by rw [block_add]; exact hpb2) (by rw [block_add]; exact hpS2) (hpc2 _ _ (map_at h3))) ?_
   refine dM 18 rfl rfl ?_
   refine dM 19 rfl rfl ?_
   refine dV 20 rfl (y_bin rfl rfl rfl (fitN (m := k + 3) (by omega) (by omega))) ?_
   refine dV 21 rfl (y_indexAddr (j := k + 3) es_44 rfl rfl (by omega)) ?_
   refine dV 22 rfl (y_oldLoad1 ld_41 rfl (by rw [block_add]; exact hpb2) (by rw [block_add]; exact hpS2) (hpc2 _ _ (map_at h4))) ?_
   refine d_ready (i := 23) (rs := []) (by kernel_rfl) .nil (all_one ?_)
   refine o_gives rfl rfl rfl (g_buildSlice (cs := [_, _, _, _, _, _]) sl_44 sz_41 ze_41 rfl rfl rfl rfl (by simp [Value.cells]) rfl rfl) rfl ?_
   intro b72 hb72
   refine d_ready (i := 24) (rs := []) (by kernel_rfl) .nil (all_one ?_)
   refine o_call rfl (no_guard rfl) ok_22 rfl rfl (out_tail (A := [_]) (H1 := (bC, slV so1 p1.out.length :: .float .f64 (F p1.x) :: .float .f64 (F p1.y) :: .bool p1.o :: .float .f64 (F p1.fx) :: .float .f64 (F p1.fy) :: rest, 46) :: slH so1 (encS p1.out) 34) (fun w1 ha hb => f22_any w1 bC 6 6 p1.x p1.y p1.fx p1.fy q1 a b c 0 d i1 (F a) (F b) (F c) 0 (F d) [] p1.o p1.out so1 rest _ (by have := hB.x; omega) (by have := hB.y; omega) hr1 (RF_F qa.lt) (RF_F qb.lt) (RF_F qc.lt) RF_zero (RF_F qd.lt) (by omega) (by omega) (by omega) (by omega) (by omega) (by omega) (by omega) hok1 (by omega) (RdF_own6 ha) hb)) ?_
   intro so2 hok2
   refine d_end (by kernel_rfl) .nil ?_
   refine qG ?_
   refine lA rfl ?_
   refine l_nil ?_
   refine q_block ?_
   refine qG ?_
   refine lM rfl ?_
   refine lV (y_bin rfl rfl rfl (fitN (m := k + 4) (by omega) (by omega))) ?_
   refine lA rfl ?_
   refine l_nil ?_
   exact q_rnd (k + 4, curveP p1 q1 a b c 0 d, so2, 0, 0) ⟨by simp only; omega, by simp only; omega, by rw [← hE, hd]; rfl, hB3, hok2, by simp [curveP]; omega, RF_zero, Opd_zero⟩ (by simp only; omega) ⟨rfl, rfl, rfl, rfl, rfl, trivial⟩ (.cons (.there .here) (.skip .refl))
 ·have hd : qt.drop k = [] := List.drop_of_length_le (by simp only [decide_eq_false_iff_not] at hc20; omega)
  rw [hd] at hE
  have hE2 : p1 = straightS lv p qs := by rw [← hE]; cases lv <;> rfl
  subst hE2
  refine c_exit ?_
  refine q_then_exit ?_
  refine q_rnd_exit ?_
  refine q_block_exit ?_
  exact body_ret (rs := []) rfl (vs := []) trivial (out_end so1 hok1 rfl (.cons .here .refl)) _ (.inl rfl)
end Go.Proofs.YtbepljmeflndkaaGreatDoor
