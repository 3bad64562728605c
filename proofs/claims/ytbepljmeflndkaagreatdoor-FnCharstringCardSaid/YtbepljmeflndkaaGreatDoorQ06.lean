/- Part 6 of the proof about FnCharstring. -/
import Derived.Test.YtbepljmeflndkaaGreatDoorQ05
namespace Go.Proofs.YtbepljmeflndkaaGreatDoor
open Go.Eng Go.Fl
set_option maxRecDepth 100000
attribute [local irreducible] IntKind.wrap Int.tdiv Int.tmod Int.emod maxLen F G
theorem fvOk.cut {g cap : Nat} {pre sp xs : List Value} (h : fvOk (some (g, pre, sp, cap)) xs) : fvOk (some (g, pre, xs ++ sp, cap)) [] := by
  obtain ⟨h1, h2, h3⟩ := h
  exact ⟨Nat.zero_le _, h2, by rw [List.length_append]; simp; omega⟩
set_option maxHeartbeats 8000000 in
theorem f15_any (w : World) (bC M v : Nat) (p : PSt) (so : Sv) (sf : Fv) (rest : List Value) (qs : List Int) (hq48 : qs.length ≤ 48) (hq : ∀ q ∈ qs, Opd q) (hB0 : p.Bd M) (hM : M + 120 * 2147483648 < 2 ^ 53) (hok : slOk so p.out.length 7 (encS p.out)) (hfv : fvOk sf (qs.map flv)) (hlen : p.out.length ≤ 70000) (hw : Hp w (((bC, slV so p.out.length :: .float .f64 (F p.x) :: .float .f64 (F p.y) :: .bool p.o :: .float .f64 (F p.fx) :: .float .f64 (F p.fy) :: fvV sf qs.length :: rest, 46) :: (slH so (encS p.out) 34 ++ fvH sf (qs.map flv) 41)).map (·.1)) ((bC, slV so p.out.length :: .float .f64 (F p.x) :: .float .f64 (F p.y) :: .bool p.o :: .float .f64 (F p.fx) :: .float .f64 (F p.fy) :: fvV sf qs.length :: rest, 46) :: (slH so (encS p.out) 34 ++ fvH sf (qs.map flv) 41)) w) : Calls Tryz.prog 15 [.pointer (some ⟨bC, 0, none⟩), .int .u8 v].toArray w (OutP w (((bC, slV so p.out.length :: .float .f64 (F p.x) :: .float .f64 (F p.y) :: .bool p.o :: .float .f64 (F p.fx) :: .float .f64 (F p.fy) :: fvV sf qs.length :: rest, 46) :: (slH so (encS p.out) 34 ++ fvH sf (qs.map flv) 41)).map (·.1)) (fun z : PSt × Sv × Fv => flexP v p qs = some z.1 ∧ p.o = true ∧ slOk z.2.1 z.1.out.length 7 (encS z.1.out) ∧ fvOk z.2.2 []) (fun z => .tuple #[]) (fun z => (bC, slV z.2.1 z.1.out.length :: .float .f64 (F z.1.x) :: .float .f64 (F z.1.y) :: .bool z.1.o :: .float .f64 (F z.1.fx) :: .float .f64 (F z.1.fy) :: fvV z.2.2 ([] : List Int).length :: rest, 46) :: (slH z.2.1 (encS z.1.out) 34 ++ fvH z.2.2 (([] : List Int).map flv) 41)) PO) := by
 have hP : Pq PO (bodyPost Tryz.prog Tryz.f15 (OutP w (((bC, slV so p.out.length :: .float .f64 (F p.x) :: .float .f64 (F p.y) :: .bool p.o :: .float .f64 (F p.fx) :: .float .f64 (F p.fy) :: fvV sf qs.length :: rest, 46) :: (slH so (encS p.out) 34 ++ fvH sf (qs.map flv) 41)).map (·.1)) (fun z : PSt × Sv × Fv => flexP v p qs = some z.1 ∧ p.o = true ∧ slOk z.2.1 z.1.out.length 7 (encS z.1.out) ∧ fvOk z.2.2 []) (fun z => .tuple #[]) (fun z => (bC, slV z.2.1 z.1.out.length :: .float .f64 (F z.1.x) :: .float .f64 (F z.1.y) :: .bool z.1.o :: .float .f64 (F z.1.fx) :: .float .f64 (F z.1.fy) :: fvV z.2.2 ([] : List Int).length :: rest, 46) :: (slH z.2.1 (encS z.1.out) 34 ++ fvH z.2.2 (([] : List Int).map flv) 41)) PO)) 238 [] w (((bC, slV so p.out.length :: .float .f64 (F p.x) :: .float .f64 (F p.y) :: .bool p.o :: .float .f64 (F p.fx) :: .float .f64 (F p.fy) :: fvV sf qs.length :: rest, 46) :: (slH so (encS p.out) 34 ++ fvH sf (qs.map flv) 41)).map (·.1)) := bodyP_out
 have hnil := fvOk.nil hfv
 rw [List.length_map] at hnil
 refine enter (n := 238) Tryz.func15 rfl rfl rfl hw ?_
 refine c_seq ?_
 refine c_drawH mixed rfl ?_
 refine dM 0 rfl rfl ?_
 refine dN 1 rfl rfl ?_
 refine dV 2 rfl (y_fieldAddr fo_46_1 rfl) ?_
 refine dV 3 rfl (y_load1 ld_44 rfl m0 rfl) ?_
 refine dM 4 rfl rfl ?_
 refine dN 5 rfl rfl ?_
 refine dV 6 rfl (y_fieldAddr fo_46_1 rfl) ?_
 refine dV 7 rfl (y_load1 ld_44 rfl m0 rfl) ?_
 refine dV 8 rfl (y_lenFv sl_44 rfl hnil) ?_
 refine dV 9 rfl (y_assign rfl) ?_
 refine dV 10 rfl (y_assign rfl) ?_
 refine d_end (by kernel_rfl) (.cons .here .refl) ?_
 refine qR ?_
 refine lM rfl ?_
 refine lN rfl ?_
 refine lV (y_fieldAddr fo_46_0 rfl) ?_
 refine lV (y_fieldAddr fo_43_3 rfl) ?_
 refine lV (y_load1 ld_4 rfl m0 rfl) ?_
 refine l_callP hP ok_12 rfl rfl (out_keepP (fun w1 => f12_any w1 _)) ?_
 intro _ hop
 refine nQ ?_
 refine c_seq ?_
 refine cR ?_
 refine lM rfl ?_
 refine nQ ?_
 refine c_block ?_
 refine cR ?_
 refine lB rfl rfl rfl rfl ?_
 refine lA rfl ?_
 refine nQ ?_
 refine c_cond rfl (fun hc25 => ?_) (fun hc25 => ?_)
 ·have hv : v = 35 := by simp only [beq_iff_eq] at hc25; omega
  subst hv
  refine cR ?_
  refine lM rfl ?_
  refine lB rfl rfl rfl rfl ?_
  refine l_callP hP ok_12 rfl rfl (out_keepP (fun w1 => f12_any w1 _)) ?_
  intro _ hn
  have hl0 : qs.length = 13 := by simp only [beq_iff_eq] at hn; omega
  obtain ⟨g, pre, sp, cap, rfl⟩ := hfv.some (by rw [List.length_map]; omega)
  have hcap : qs.length ≤ cap := by have := hfv.1; rwa [List.length_map] at this
  obtain ⟨x0, q1, rfl, hl1⟩ := consN hl0
  obtain ⟨x1, q2, rfl, hl2⟩ := consN hl1
  obtain ⟨x2, q3, rfl, hl3⟩ := consN hl2
  obtain ⟨x3, q4, rfl, hl4⟩ := consN hl3
  obtain ⟨x4, q5, rfl, hl5⟩ := consN hl4
  obtain ⟨x5, q6, rfl, hl6⟩ := consN hl5
  obtain ⟨x6, q7, rfl, hl7⟩ := consN hl6
  obtain ⟨x7, q8, rfl, hl8⟩ := consN hl7
  obtain ⟨x8, q9, rfl, hl9⟩ := consN hl8
  obtain ⟨x9, q10, rfl, hl10⟩ := consN hl9
  obtain ⟨x10, q11, rfl, hl11⟩ := consN hl10
  obtain ⟨x11, q12, rfl, hl12⟩ := consN hl11
  obtain ⟨x12, q13, rfl, hl13⟩ := consN hl12
  obtain rfl := List.length_eq_zero_iff.1 hl13
  have o0 : Opd x0 := hq x0 (by simp)
  have o1 : Opd x1 := hq x1 (by simp)
  have o2 : Opd x2 := hq x2 (by simp)
  have o3 : Opd x3 := hq x3 (by simp)
  have o4 : Opd x4 := hq x4 (by simp)
  have o5 : Opd x5 := hq x5 (by simp)
  have o6 : Opd x6 := hq x6 (by simp)
  have o7 : Opd x7 := hq x7 (by simp)
  have o8 : Opd x8 := hq x8 (by simp)
  have o9 : Opd x9 := hq x9 (by simp)
  have o10 : Opd x10 := hq x10 (by simp)
  have o11 : Opd x11 := hq x11 (by simp)
  have o12 : Opd x12 := hq x12 (by simp)
  simp only [List.length_cons, List.length_nil] at hcap
  refine l_perm (.cons _ (List.perm_append_comm (l₂ := [_]))) ?_
  refine nG ?_
  refine lM rfl ?_
  refine lM rfl ?_
  refine lV (y_fvTo (fv := some (g, pre, sp, cap)) (xs := [x0, x1, x2, x3, x4, x5, x6, x7, x8, x9, x10, x11, x12].map flv) (k := 12) es_44 hfv rfl rfl (by simp)) ?_
  refine l_call ok_21 rfl rfl (out_mid (b := _) (T := slH so (encS p.out) 34) [] [(g, pre ++ ([x0, x1, x2, x3, x4, x5, x6, x7, x8, x9, x10, x11, x12].map flv ++ sp), 41)] (fun w1 ha hb => f21_m w1 bC cap M 12 p so (fvV (some (g, pre, sp, cap)) [x0, x1, x2, x3, x4, x5, x6, x7, x8, x9, x10, x11, x12].length :: rest) _ ([x0, x1, x2, x3, x4, x5, x6, x7, x8, x9, x10, x11, x12].take 12) rfl (by simp) (by simp; omega) (by simp) (opd_take hq _) hB0 (by omega) hok (by omega) (RdF.take (RdF_fv (cap := cap) (qs := [x0, x1, x2, x3, x4, x5, x6, x7, x8, x9, x10, x11, x12]) (H1 := (bC, slV so p.out.length :: .float .f64 (F p.x) :: .float .f64 (F p.y) :: .bool p.o :: .float .f64 (F p.fx) :: .float .f64 (F p.fy) :: (fvV (some (g, pre, sp, cap)) [x0, x1, x2, x3, x4, x5, x6, x7, x8, x9, x10, x11, x12].length :: rest), 46) :: slH so (encS p.out) 34) (ha.perm (.cons _ List.perm_append_comm))) 12) hb)) ?_
  intro so2 hok2
  refine l_nil ?_
  refine q_block ?_
  refine qG ?_
  refine lM rfl ?_
  refine lM rfl ?_
  refine lN rfl ?_
  refine lV (y_fieldAddr fo_46_1 rfl) ?_
  refine lV (y_load1 ld_44 rfl m0 rfl) ?_
  refine lV (y_fvTo (fv := some (g, pre, sp, cap)) (xs := [x0, x1, x2, x3, x4, x5, x6, x7, x8, x9, x10, x11, x12].map flv) (k := 0) es_44 hfv rfl rfl (Nat.zero_le _)) ?_
  refine lN rfl ?_
  refine lV (y_fieldAddr fo_46_1 rfl) ?_
  refine l_does rfl rfl (g_store1 (cs' := _ :: _ :: _ :: _ :: _ :: _ :: _ :: _) sz_44 rfl rfl rfl rfl rfl rfl .here) ?_
  intro _ _
  refine l_nil ?_
  refine q_perm (.cons _ (List.perm_append_comm (l₁ := [_]))) ?_
  exact body_ret (rs := []) rfl (vs := []) trivial (out_endP (curvesP p ([x0, x1, x2, x3, x4, x5, x6, x7, x8, x9, x10, x11, x12].take 12), so2, some (g, pre, [x0, x1, x2, x3, x4, x5, x6, x7, x8, x9, x10, x11, x12].map flv ++ sp, cap)) ⟨(by simp [flexP]), hop, hok2, fvOk.cut hfv⟩ rfl .refl) _ (.inl rfl)
 ·refine cR ?_
  refine lB rfl rfl rfl rfl ?_
  refine lA rfl ?_
  refine nQ ?_
  refine c_cond rfl (fun hc34 => ?_) (fun hc34 => ?_)
  ·have hv : v = 34 := by simp only [beq_iff_eq] at hc34; omega
   subst hv
   refine cR ?_
   refine lM rfl ?_
   refine lB rfl rfl rfl rfl ?_
   refine l_callP hP ok_12 rfl rfl (out_keepP (fun w1 => f12_any w1 _)) ?_
   intro _ hn
   have hl0 : qs.length = 7 := by simp only [beq_iff_eq] at hn; omega
   obtain ⟨g, pre, sp, cap, rfl⟩ := hfv.some (by rw [List.length_map]; omega)
   have hcap : qs.length ≤ cap := by have := hfv.1; rwa [List.length_map] at this
   obtain ⟨x0, q1, rfl, hl1⟩ := consN hl0
   obtain ⟨x1, q2, rfl, hl2⟩ := consN hl1
   obtain ⟨x2, q3, rfl, hl3⟩ := consN hl2
   obtain ⟨x3, q4, rfl, hl4⟩ := consN hl3
   obtain ⟨x4, q5, rfl, hl5⟩ := consN hl4
   obtain ⟨x5, q6, rfl, hl6⟩ := consN hl5
   obtain ⟨x6, q7, rfl, hl7⟩ := consN hl6
   obtain rfl := List.length_eq_zero_iff.1 hl7
   have o0 : Opd x0 := hq x0 (by simp)
   have o1 : Opd x1 := hq x1 (by simp)
   have o2 : Opd x2 := hq x2 (by simp)
   have o3 : Opd x3 := hq x3 (by simp)
   have o4 : Opd x4 := hq x4 (by simp)
   have o5 : Opd x5 := hq x5 (by simp)
   have o6 : Opd x6 := hq x6 (by simp)
   simp only [List.length_cons, List.length_nil] at hcap
   refine l_perm (.cons _ (List.perm_append_comm (l₂ := [_]))) ?_
   refine nQ ?_
   refine c_seq ?_
   refine c_draw [(g, pre ++ ([x0, x1, x2, x3, x4, x5, x6].map flv ++ sp), 41)] mixed rfl ?_
   refine dM 0 rfl rfl ?_
   refine dN 1 rfl rfl ?_
   refine dV 2 rfl (y_fieldAddr fo_46_0 rfl) ?_
   refine dM 3 rfl rfl ?_
   refine dV 4 rfl (y_indexFv (j := 0) es_44 rfl rfl (by simp)) ?_
   refine dV 5 rfl (y_load1 ld_41 rfl m0 (fv_at (v := .float .f64 (F x0)) rfl)) ?_
   refine dM 6 rfl rfl ?_
   refine dV 7 rfl (y_indexFv (j := 1) es_44 rfl rfl (by simp)) ?_
   refine dV 8 rfl (y_load1 ld_41 rfl m0 (fv_at (v := .float .f64 (F x1)) rfl)) ?_
   refine dM 9 rfl rfl ?_
   refine dV 10 rfl (y_indexFv (j := 2) es_44 rfl rfl (by simp)) ?_
   refine dV 11 rfl (y_load1 ld_41 rfl m0 (fv_at (v := .float .f64 (F x2)) rfl)) ?_
   refine dM 12 rfl rfl ?_
   refine dV 13 rfl (y_indexFv (j := 3) es_44 rfl rfl (by simp)) ?_
   refine dV 14 rfl (y_load1 ld_41 rfl m0 (fv_at (v := .float .f64 (F x3)) rfl)) ?_
   refine d_ready (i := 15) (rs := []) (by kernel_rfl) (.cons (.there .here) .nil) (all_one ?_)
   refine o_gives rfl rfl rfl (g_buildSlice (cs := [_, _, _, _, _, _]) sl_44 sz_41 ze_41 rfl rfl rfl rfl (by simp [Value.cells]) rfl rfl) rfl ?_
   intro b54 hb54
   refine d_ready (i := 16) (rs := []) (by kernel_rfl) (.cons (.there (.there .here)) .nil) (all_one ?_)
   obtain ⟨hx0, hx1, hx2⟩ := abs4 hB0.x o0.big o1.big o3.big
   obtain ⟨hy0, hy1, hy2⟩ := abs4 hB0.y big_zero o2.big big_zero
   have hB1 := curveP_bd2 hB0 o0.big big_zero o1.big o2.big o3.big big_zero
   have hln1 : (curveP p x0 0 x1 x2 x3 0).out.length = p.out.length + 1 := curveP_len
   refine o_call rfl (no_guard rfl) ok_22 rfl rfl (out_mid (b := (bC, slV so p.out.length :: .float .f64 (F p.x) :: .float .f64 (F p.y) :: .bool p.o :: .float .f64 (F p.fx) :: .float .f64 (F p.fy) :: (fvV (some (g, pre, sp, cap)) [x0, x1, x2, x3, x4, x5, x6].length :: rest), 46)) (T := slH so (encS p.out) 34) [_] [(g, pre ++ ([x0, x1, x2, x3, x4, x5, x6].map flv ++ sp), 41)] (fun w1 ha hb => f22_any w1 bC 6 6 p.x p.y p.fx p.fy x0 0 x1 x2 x3 0 (F x0) 0 (F x1) (F x2) (F x3) 0 [] p.o p.out so (fvV (some (g, pre, sp, cap)) [x0, x1, x2, x3, x4, x5, x6].length :: rest) _ (by have := hB0.x; omega) (by have := hB0.y; omega) (RF_F o0.lt) RF_zero (RF_F o1.lt) (RF_F o2.lt) (RF_F o3.lt) RF_zero (by omega) (by omega) (by omega) (by omega) (by omega) (by omega) (by omega) hok (by omega) (RdF_own6 (ha.sub (.cons .here (.cons .here (.skip .refl))))) hb)) ?_
   intro so1 hok1
   refine d_end (by kernel_rfl) (.cons (.there (.there .here)) .nil) ?_
   refine q_then ?_
   refine c_draw [(g, pre ++ ([x0, x1, x2, x3, x4, x5, x6].map flv ++ sp), 41)] mixed rfl ?_
   refine dM 0 rfl rfl ?_
   refine dN 1 rfl rfl ?_
   refine dV 2 rfl (y_fieldAddr fo_46_0 rfl) ?_
   refine dM 3 rfl rfl ?_
   refine dV 4 rfl (y_indexFv (j := 4) es_44 rfl rfl (by simp)) ?_
   refine dV 5 rfl (y_load1 ld_41 rfl m0 (fv_at (v := .float .f64 (F x4)) rfl)) ?_
   refine dM 6 rfl rfl ?_
   refine dV 7 rfl (y_indexFv (j := 5) es_44 rfl rfl (by simp)) ?_
   refine dV 8 rfl (y_load1 ld_41 rfl m0 (fv_at (v := .float .f64 (F x5)) rfl)) ?_
   refine dM 9 rfl rfl ?_
   refine dV 10 rfl (y_indexFv (j := 2) es_44 rfl rfl (by simp)) ?_
   refine dV 11 rfl (y_load1 ld_41 rfl m0 (fv_at (v := .float .f64 (F x2)) rfl)) ?_
   refine dV 12 rfl (y_fneg rfl) ?_
   refine dM 13 rfl rfl ?_
   refine dV 14 rfl (y_indexFv (j := 6) es_44 rfl rfl (by simp)) ?_
   refine dV 15 rfl (y_load1 ld_41 rfl m0 (fv_at (v := .float .f64 (F x6)) rfl)) ?_
   refine d_ready (i := 16) (rs := []) (by kernel_rfl) (.cons (.there (.there .here)) .nil) (all_one ?_)
   refine o_gives rfl rfl rfl (g_buildSlice (cs := [_, _, _, _, _, _]) sl_44 sz_41 ze_41 rfl rfl rfl rfl (by simp [Value.cells]) rfl rfl) rfl ?_
   intro b72 hb72
   refine d_ready (i := 17) (rs := []) (by kernel_rfl) (.cons (.there (.there (.there .here))) .nil) (all_one ?_)
   obtain ⟨hx0, hx1, hx2⟩ := abs4 hB1.x o4.big o5.big o6.big
   obtain ⟨hy0, hy1, hy2⟩ := abs4 hB1.y big_zero (neg_le o2.big) big_zero
   have hB2 := curveP_bd2 hB1 o4.big big_zero o5.big (neg_le o2.big) o6.big big_zero
   have hln2 : (curveP (curveP p x0 0 x1 x2 x3 0) x4 0 x5 (-x2) x6 0).out.length = (curveP p x0 0 x1 x2 x3 0).out.length + 1 := curveP_len
   refine o_call rfl (no_guard rfl) ok_22 rfl rfl (out_mid (b := (bC, slV so1 (curveP p x0 0 x1 x2 x3 0).out.length :: .float .f64 (F (curveP p x0 0 x1 x2 x3 0).x) :: .float .f64 (F (curveP p x0 0 x1 x2 x3 0).y) :: .bool (curveP p x0 0 x1 x2 x3 0).o :: .float .f64 (F (curveP p x0 0 x1 x2 x3 0).fx) :: .float .f64 (F (curveP p x0 0 x1 x2 x3 0).fy) :: (fvV (some (g, pre, sp, cap)) [x0, x1, x2, x3, x4, x5, x6].length :: rest), 46)) (T := slH so1 (encS (curveP p x0 0 x1 x2 x3 0).out) 34) [_, _] [(g, pre ++ ([x0, x1, x2, x3, x4, x5, x6].map flv ++ sp), 41)] (fun w1 ha hb => f22_any w1 bC 6 6 (curveP p x0 0 x1 x2 x3 0).x (curveP p x0 0 x1 x2 x3 0).y (curveP p x0 0 x1 x2 x3 0).fx (curveP p x0 0 x1 x2 x3 0).fy x4 0 x5 (-x2) x6 0 (F x4) 0 (F x5) (F x2 ^^^ 2 ^ 63) (F x6) 0 [] (curveP p x0 0 x1 x2 x3 0).o (curveP p x0 0 x1 x2 x3 0).out so1 (fvV (some (g, pre, sp, cap)) [x0, x1, x2, x3, x4, x5, x6].length :: rest) _ (by have := hB1.x; omega) (by have := hB1.y; omega) (RF_F o4.lt) RF_zero (RF_F o5.lt) (neg_RF (RF_F o2.lt)) (RF_F o6.lt) RF_zero (by omega) (by omega) (by omega) (by omega) (by omega) (by omega) (by omega) hok1 (by omega) (RdF_own6 (ha.sub (.cons .here (.cons (.there .here) (.skip (.skip .refl)))))) hb)) ?_
   intro so2 hok2
   refine d_end (by kernel_rfl) (.cons (.there (.there (.there .here))) .nil) ?_
   refine q_block ?_
   refine qG ?_
   refine lM rfl ?_
   refine lM rfl ?_
   refine lN rfl ?_
   refine lV (y_fieldAddr fo_46_1 rfl) ?_
   refine lV (y_load1 ld_44 rfl m2 rfl) ?_
   refine lV (y_fvTo (fv := some (g, pre, sp, cap)) (xs := [x0, x1, x2, x3, x4, x5, x6].map flv) (k := 0) es_44 hfv rfl rfl (Nat.zero_le _)) ?_
   refine lN rfl ?_
   refine lV (y_fieldAddr fo_46_1 rfl) ?_
   refine l_does rfl rfl (g_store1 (cs' := _ :: _ :: _ :: _ :: _ :: _ :: _ :: _) sz_44 rfl rfl rfl rfl rfl rfl (.there (.there .here))) ?_
   intro _ _
   refine l_nil ?_
   refine q_perm (.cons _ (.cons _ (.cons _ (List.perm_append_comm (l₁ := [_]))))) ?_
   exact body_ret (rs := []) rfl (vs := []) trivial (out_endP ((curveP (curveP p x0 0 x1 x2 x3 0) x4 0 x5 (-x2) x6 0), so2, some (g, pre, [x0, x1, x2, x3, x4, x5, x6].map flv ++ sp, cap)) ⟨(by simp [flexP]), hop, hok2, fvOk.cut hfv⟩ rfl (.skip (.skip .refl))) _ (.inl rfl)
  ·refine cR ?_
   refine lB rfl rfl rfl rfl ?_
   refine lA rfl ?_
   refine nQ ?_
   refine c_cond rfl (fun hc74 => ?_) (fun hc74 => ?_)
   ·have hv : v = 36 := by simp only [beq_iff_eq] at hc74; omega
    subst hv
    refine cR ?_
    refine lM rfl ?_
    refine lB rfl rfl rfl rfl ?_
    refine l_callP hP ok_12 rfl rfl (out_keepP (fun w1 => f12_any w1 _)) ?_
    intro _ hn
    have hl0 : qs.length = 9 := by simp only [beq_iff_eq] at hn; omega
    obtain ⟨g, pre, sp, cap, rfl⟩ := hfv.some (by rw [List.length_map]; omega)
    have hcap : qs.length ≤ cap := by have := hfv.1; rwa [List.length_map] at this
    obtain ⟨x0, q1, rfl, hl1⟩ := consN hl0
    obtain ⟨x1, q2, rfl, hl2⟩ := consN hl1
    obtain ⟨x2, q3, rfl, hl3⟩ := consN hl2
    obtain ⟨x3, q4, rfl, hl4⟩ := consN hl3
    obtain ⟨x4, q5, rfl, hl5⟩ := consN hl4
    obtain ⟨x5, q6, rfl, hl6⟩ := consN hl5
    obtain ⟨x6, q7, rfl, hl7⟩ := consN hl6
    obtain ⟨x7, q8, rfl, hl8⟩ := consN hl7
    obtain ⟨x8, q9, rfl, hl9⟩ := consN hl8
    obtain rfl := List.length_eq_zero_iff.1 hl9
    have o0 : Opd x0 := hq x0 (by simp)
    have o1 : Opd x1 := hq x1 (by simp)
    have o2 : Opd x2 := hq x2 (by simp)
    have o3 : Opd x3 := hq x3 (by simp)
    have o4 : Opd x4 := hq x4 (by simp)
    have o5 : Opd x5 := hq x5 (by simp)
    have o6 : Opd x6 := hq x6 (by simp)
    have o7 : Opd x7 := hq x7 (by simp)
    have o8 : Opd x8 := hq x8 (by simp)
    simp only [List.length_cons, List.length_nil] at hcap
    refine l_perm (.cons _ (List.perm_append_comm (l₂ := [_]))) ?_
    refine nQ ?_
    refine c_seq ?_
    refine c_draw [(g, pre ++ ([x0, x1, x2, x3, x4, x5, x6, x7, x8].map flv ++ sp), 41)] mixed rfl ?_
    refine dM 0 rfl rfl ?_
    refine dN 1 rfl rfl ?_
    refine dV 2 rfl (y_fieldAddr fo_46_0 rfl) ?_
    refine dM 3 rfl rfl ?_
    refine dV 4 rfl (y_indexFv (j := 0) es_44 rfl rfl (by simp)) ?_
    refine dV 5 rfl (y_load1 ld_41 rfl m0 (fv_at (v := .float .f64 (F x0)) rfl)) ?_
    refine dM 6 rfl rfl ?_
    refine dV 7 rfl (y_indexFv (j := 1) es_44 rfl rfl (by simp)) ?_
    refine dV 8 rfl (y_load1 ld_41 rfl m0 (fv_at (v := .float .f64 (F x1)) rfl)) ?_
    refine dM 9 rfl rfl ?_
    refine dV 10 rfl (y_indexFv (j := 2) es_44 rfl rfl (by simp)) ?_
    refine dV 11 rfl (y_load1 ld_41 rfl m0 (fv_at (v := .float .f64 (F x2)) rfl)) ?_
    refine dM 12 rfl rfl ?_
    refine dV 13 rfl (y_indexFv (j := 3) es_44 rfl rfl (by simp)) ?_
    refine dV 14 rfl (y_load1 ld_41 rfl m0 (fv_at (v := .float .f64 (F x3)) rfl)) ?_
    refine dM 15 rfl rfl ?_
    refine dV 16 rfl (y_indexFv (j := 4) es_44 rfl rfl (by simp)) ?_
    refine dV 17 rfl (y_load1 ld_41 rfl m0 (fv_at (v := .float .f64 (F x4)) rfl)) ?_
    refine d_ready (i := 18) (rs := []) (by kernel_rfl) (.cons (.there .here) .nil) (all_one ?_)
    refine o_gives rfl rfl rfl (g_buildSlice (cs := [_, _, _, _, _, _]) sl_44 sz_41 ze_41 rfl rfl rfl rfl (by simp [Value.cells]) rfl rfl) rfl ?_
    intro b97 hb97
    refine d_ready (i := 19) (rs := []) (by kernel_rfl) (.cons (.there (.there .here)) .nil) (all_one ?_)
    obtain ⟨hx0, hx1, hx2⟩ := abs4 hB0.x o0.big o2.big o4.big
    obtain ⟨hy0, hy1, hy2⟩ := abs4 hB0.y o1.big o3.big big_zero
    have hB1 := curveP_bd2 hB0 o0.big o1.big o2.big o3.big o4.big big_zero
    have hln1 : (curveP p x0 x1 x2 x3 x4 0).out.length = p.out.length + 1 := curveP_len
    refine o_call rfl (no_guard rfl) ok_22 rfl rfl (out_mid (b := (bC, slV so p.out.length :: .float .f64 (F p.x) :: .float .f64 (F p.y) :: .bool p.o :: .float .f64 (F p.fx) :: .float .f64 (F p.fy) :: (fvV (some (g, pre, sp, cap)) [x0, x1, x2, x3, x4, x5, x6, x7, x8].length :: rest), 46)) (T := slH so (encS p.out) 34) [_] [(g, pre ++ ([x0, x1, x2, x3, x4, x5, x6, x7, x8].map flv ++ sp), 41)] (fun w1 ha hb => f22_any w1 bC 6 6 p.x p.y p.fx p.fy x0 x1 x2 x3 x4 0 (F x0) (F x1) (F x2) (F x3) (F x4) 0 [] p.o p.out so (fvV (some (g, pre, sp, cap)) [x0, x1, x2, x3, x4, x5, x6, x7, x8].length :: rest) _ (by have := hB0.x; omega) (by have := hB0.y; omega) (RF_F o0.lt) (RF_F o1.lt) (RF_F o2.lt) (RF_F o3.lt) (RF_F o4.lt) RF_zero (by omega) (by omega) (by omega) (by omega) (by omega) (by omega) (by omega) hok (by omega) (RdF_own6 (ha.sub (.cons .here (.cons .here (.skip .refl))))) hb)) ?_
    intro so1 hok1
    refine d_end (by kernel_rfl) (.cons (.there (.there .here)) .nil) ?_
    refine q_then ?_
    have h13 := Opd.add o1 o3
    have hs0 := Opd.add h13 o7
    have hs : (x1 + x3 + x7).natAbs ≤ 10737418240 := Nat.le_trans hs0 (by decide)
    refine c_draw [(g, pre ++ ([x0, x1, x2, x3, x4, x5, x6, x7, x8].map flv ++ sp), 41)] mixed rfl ?_
    refine dM 0 rfl rfl ?_
    refine dN 1 rfl rfl ?_
    refine dV 2 rfl (y_fieldAddr fo_46_0 rfl) ?_
    refine dM 3 rfl rfl ?_
    refine dV 4 rfl (y_indexFv (j := 5) es_44 rfl rfl (by simp)) ?_
    refine dV 5 rfl (y_load1 ld_41 rfl m0 (fv_at (v := .float .f64 (F x5)) rfl)) ?_
    refine dM 6 rfl rfl ?_
    refine dV 7 rfl (y_indexFv (j := 6) es_44 rfl rfl (by simp)) ?_
    refine dV 8 rfl (y_load1 ld_41 rfl m0 (fv_at (v := .float .f64 (F x6)) rfl)) ?_
    refine dM 9 rfl rfl ?_
    refine dV 10 rfl (y_indexFv (j := 7) es_44 rfl rfl (by simp)) ?_
    refine dV 11 rfl (y_load1 ld_41 rfl m0 (fv_at (v := .float .f64 (F x7)) rfl)) ?_
    refine dM 12 rfl rfl ?_
    refine dV 13 rfl (y_indexFv (j := 8) es_44 rfl rfl (by simp)) ?_
    refine dV 14 rfl (y_load1 ld_41 rfl m0 (fv_at (v := .float .f64 (F x8)) rfl)) ?_
    refine dM 15 rfl rfl ?_
    refine dV 16 rfl (y_indexFv (j := 1) es_44 rfl rfl (by simp)) ?_
    refine dV 17 rfl (y_load1 ld_41 rfl m0 (fv_at (v := .float .f64 (F x1)) rfl)) ?_
    refine dM 18 rfl rfl ?_
    refine dV 19 rfl (y_indexFv (j := 3) es_44 rfl rfl (by simp)) ?_
    refine dV 20 rfl (y_load1 ld_41 rfl m0 (fv_at (v := .float .f64 (F x3)) rfl)) ?_
    refine dV 21 rfl (y_fadd (a := x1) (b := x3) rfl rfl o1.lt (RF_F o3.lt) (by omega)) ?_
    refine dM 22 rfl rfl ?_
    refine dV 23 rfl (y_indexFv (j := 7) es_44 rfl rfl (by simp)) ?_
    refine dV 24 rfl (y_load1 ld_41 rfl m0 (fv_at (v := .float .f64 (F x7)) rfl)) ?_
    refine dV 25 rfl (y_fadd (a := (x1 + x3)) (b := x7) rfl rfl (by omega) (RF_F o7.lt) (by omega)) ?_
    refine dV 26 rfl (y_fneg rfl) ?_
    refine d_ready (i := 27) (rs := []) (by kernel_rfl) (.cons (.there (.there .here)) .nil) (all_one ?_)
    refine o_gives rfl rfl rfl (g_buildSlice (cs := [_, _, _, _, _, _]) sl_44 sz_41 ze_41 rfl rfl rfl rfl (by simp [Value.cells]) rfl rfl) rfl ?_
    intro b126 hb126
    refine d_ready (i := 28) (rs := []) (by kernel_rfl) (.cons (.there (.there (.there .here))) .nil) (all_one ?_)
    obtain ⟨hx0, hx1, hx2⟩ := abs4 hB1.x o5.big o6.big o8.big
    obtain ⟨hy0, hy1, hy2⟩ := abs4 hB1.y big_zero o7.big (neg_le hs)
    have hB2 := curveP_bd2 hB1 o5.big big_zero o6.big o7.big o8.big (neg_le hs)
    have hln2 : (curveP (curveP p x0 x1 x2 x3 x4 0) x5 0 x6 x7 x8 (-(x1 + x3 + x7))).out.length = (curveP p x0 x1 x2 x3 x4 0).out.length + 1 := curveP_len
    refine o_call rfl (no_guard rfl) ok_22 rfl rfl (out_mid (b := (bC, slV so1 (curveP p x0 x1 x2 x3 x4 0).out.length :: .float .f64 (F (curveP p x0 x1 x2 x3 x4 0).x) :: .float .f64 (F (curveP p x0 x1 x2 x3 x4 0).y) :: .bool (curveP p x0 x1 x2 x3 x4 0).o :: .float .f64 (F (curveP p x0 x1 x2 x3 x4 0).fx) :: .float .f64 (F (curveP p x0 x1 x2 x3 x4 0).fy) :: (fvV (some (g, pre, sp, cap)) [x0, x1, x2, x3, x4, x5, x6, x7, x8].length :: rest), 46)) (T := slH so1 (encS (curveP p x0 x1 x2 x3 x4 0).out) 34) [_, _] [(g, pre ++ ([x0, x1, x2, x3, x4, x5, x6, x7, x8].map flv ++ sp), 41)] (fun w1 ha hb => f22_any w1 bC 6 6 (curveP p x0 x1 x2 x3 x4 0).x (curveP p x0 x1 x2 x3 x4 0).y (curveP p x0 x1 x2 x3 x4 0).fx (curveP p x0 x1 x2 x3 x4 0).fy x5 0 x6 x7 x8 (-(x1 + x3 + x7)) (F x5) 0 (F x6) (F x7) (F x8) (F (x1 + x3 + x7) ^^^ 2 ^ 63) [] (curveP p x0 x1 x2 x3 x4 0).o (curveP p x0 x1 x2 x3 x4 0).out so1 (fvV (some (g, pre, sp, cap)) [x0, x1, x2, x3, x4, x5, x6, x7, x8].length :: rest) _ (by have := hB1.x; omega) (by have := hB1.y; omega) (RF_F o5.lt) RF_zero (RF_F o6.lt) (RF_F o7.lt) (RF_F o8.lt) (neg_RF (RF_F (q := (x1 + x3 + x7)) (by omega))) (by omega) (by omega) (by omega) (by omega) (by omega) (by omega) (by omega) hok1 (by omega) (RdF_own6 (ha.sub (.cons .here (.cons (.there .here) (.skip (.skip .refl)))))) hb)) ?_
    intro so2 hok2
    refine d_end (by kernel_rfl) (.cons (.there (.there (.there .here))) .nil) ?_
    refine q_block ?_
    refine qG ?_
    refine lM rfl ?_
    refine lM rfl ?_
    refine lN rfl ?_
    refine lV (y_fieldAddr fo_46_1 rfl) ?_
    refine lV (y_load1 ld_44 rfl m2 rfl) ?_
    refine lV (y_fvTo (fv := some (g, pre, sp, cap)) (xs := [x0, x1, x2, x3, x4, x5, x6, x7, x8].map flv) (k := 0) es_44 hfv rfl rfl (Nat.zero_le _)) ?_
    refine lN rfl ?_
    refine lV (y_fieldAddr fo_46_1 rfl) ?_
    refine l_does rfl rfl (g_store1 (cs' := _ :: _ :: _ :: _ :: _ :: _ :: _ :: _) sz_44 rfl rfl rfl rfl rfl rfl (.there (.there .here))) ?_
    intro _ _
    refine l_nil ?_
    refine q_perm (.cons _ (.cons _ (.cons _ (List.perm_append_comm (l₁ := [_]))))) ?_
    exact body_ret (rs := []) rfl (vs := []) trivial (out_endP ((curveP (curveP p x0 x1 x2 x3 x4 0) x5 0 x6 x7 x8 (-(x1 + x3 + x7))), so2, some (g, pre, [x0, x1, x2, x3, x4, x5, x6, x7, x8].map flv ++ sp, cap)) ⟨(by simp [flexP]), hop, hok2, fvOk.cut hfv⟩ rfl (.skip (.skip .refl))) _ (.inl rfl)
   ·refine cR ?_
    refine lB rfl rfl rfl rfl ?_
    refine lA rfl ?_
    refine nQ ?_
    refine c_cond rfl (fun hc128 => ?_) (fun hc128 => ?_)
    ·have hv : v = 37 := by simp only [beq_iff_eq] at hc128; omega
     subst hv
     refine cR ?_
     refine lM rfl ?_
     refine lB rfl rfl rfl rfl ?_
     refine l_callP hP ok_12 rfl rfl (out_keepP (fun w1 => f12_any w1 _)) ?_
     intro _ hn
     have hl0 : qs.length = 11 := by simp only [beq_iff_eq] at hn; omega
     obtain ⟨g, pre, sp, cap, rfl⟩ := hfv.some (by rw [List.length_map]; omega)
     have hcap : qs.length ≤ cap := by have := hfv.1; rwa [List.length_map] at this
     obtain ⟨x0, q1, rfl, hl1⟩ := consN hl0
     obtain ⟨x1, q2, rfl, hl2⟩ := consN hl1
     obtain ⟨x2, q3, rfl, hl3⟩ := consN hl2
     obtain ⟨x3, q4, rfl, hl4⟩ := consN hl3
     obtain ⟨x4, q5, rfl, hl5⟩ := consN hl4
     obtain ⟨x5, q6, rfl, hl6⟩ := consN hl5
     obtain ⟨x6, q7, rfl, hl7⟩ := consN hl6
     obtain ⟨x7, q8, rfl, hl8⟩ := consN hl7
     obtain ⟨x8, q9, rfl, hl9⟩ := consN hl8
     obtain ⟨x9, q10, rfl, hl10⟩ := consN hl9
     obtain ⟨x10, q11, rfl, hl11⟩ := consN hl10
     obtain rfl := List.length_eq_zero_iff.1 hl11
     have o0 : Opd x0 := hq x0 (by simp)
     have o1 : Opd x1 := hq x1 (by simp)
     have o2 : Opd x2 := hq x2 (by simp)
     have o3 : Opd x3 := hq x3 (by simp)
     have o4 : Opd x4 := hq x4 (by simp)
     have o5 : Opd x5 := hq x5 (by simp)
     have o6 : Opd x6 := hq x6 (by simp)
     have o7 : Opd x7 := hq x7 (by simp)
     have o8 : Opd x8 := hq x8 (by simp)
     have o9 : Opd x9 := hq x9 (by simp)
     have o10 : Opd x10 := hq x10 (by simp)
     simp only [List.length_cons, List.length_nil] at hcap
     refine l_perm (.cons _ (List.perm_append_comm (l₂ := [_]))) ?_
     refine nQ ?_
     refine c_seq ?_
     have hx_1 := Opd.add o0 o2
     have hx_2 := Opd.add hx_1 o4
     have hx_3 := Opd.add hx_2 o6
     have hx_4 := Opd.add hx_3 o8
     have hy_1 := Opd.add o1 o3
     have hy_2 := Opd.add hy_1 o5
     have hy_3 := Opd.add hy_2 o7
     have hy_4 := Opd.add hy_3 o9
     have hsx : (x0 + x2 + x4 + x6 + x8).natAbs ≤ 10737418240 := Nat.le_trans hx_4 (by decide)
     have hsy : (x1 + x3 + x5 + x7 + x9).natAbs ≤ 10737418240 := Nat.le_trans hy_4 (by decide)
     refine c_draw [(g, pre ++ ([x0, x1, x2, x3, x4, x5, x6, x7, x8, x9, x10].map flv ++ sp), 41)] mixed rfl ?_
     refine dM 0 rfl rfl ?_
     refine dV 1 rfl (y_indexFv (j := 0) es_44 rfl rfl (by simp)) ?_
     refine dV 2 rfl (y_load1 ld_41 rfl m0 (fv_at (v := .float .f64 (F x0)) rfl)) ?_
     refine dM 3 rfl rfl ?_
     refine dV 4 rfl (y_indexFv (j := 2) es_44 rfl rfl (by simp)) ?_
     refine dV 5 rfl (y_load1 ld_41 rfl m0 (fv_at (v := .float .f64 (F x2)) rfl)) ?_
     refine dV 6 rfl (y_fadd (a := x0) (b := x2) rfl rfl o0.lt (RF_F o2.lt) (by omega)) ?_
     refine dM 7 rfl rfl ?_
     refine dV 8 rfl (y_indexFv (j := 4) es_44 rfl rfl (by simp)) ?_
     refine dV 9 rfl (y_load1 ld_41 rfl m0 (fv_at (v := .float .f64 (F x4)) rfl)) ?_
     refine dV 10 rfl (y_fadd (a := (x0 + x2)) (b := x4) rfl rfl (by omega) (RF_F o4.lt) (by omega)) ?_
     refine dM 11 rfl rfl ?_
     refine dV 12 rfl (y_indexFv (j := 6) es_44 rfl rfl (by simp)) ?_
     refine dV 13 rfl (y_load1 ld_41 rfl m0 (fv_at (v := .float .f64 (F x6)) rfl)) ?_
     refine dV 14 rfl (y_fadd (a := (x0 + x2 + x4)) (b := x6) rfl rfl (by omega) (RF_F o6.lt) (by omega)) ?_
     refine dM 15 rfl rfl ?_
     refine dV 16 rfl (y_indexFv (j := 8) es_44 rfl rfl (by simp)) ?_
     refine dV 17 rfl (y_load1 ld_41 rfl m0 (fv_at (v := .float .f64 (F x8)) rfl)) ?_
     refine dV 18 rfl (y_fadd (a := (x0 + x2 + x4 + x6)) (b := x8) rfl rfl (by omega) (RF_F o8.lt) (by omega)) ?_
     refine dM 19 rfl rfl ?_
     refine dV 20 rfl (y_indexFv (j := 1) es_44 rfl rfl (by simp)) ?_
     refine dV 21 rfl (y_load1 ld_41 rfl m0 (fv_at (v := .float .f64 (F x1)) rfl)) ?_
     refine dM 22 rfl rfl ?_
     refine dV 23 rfl (y_indexFv (j := 3) es_44 rfl rfl (by simp)) ?_
     refine dV 24 rfl (y_load1 ld_41 rfl m0 (fv_at (v := .float .f64 (F x3)) rfl)) ?_
     refine dV 25 rfl (y_fadd (a := x1) (b := x3) rfl rfl o1.lt (RF_F o3.lt) (by omega)) ?_
     refine dM 26 rfl rfl ?_
     refine dV 27 rfl (y_indexFv (j := 5) es_44 rfl rfl (by simp)) ?_
     refine dV 28 rfl (y_load1 ld_41 rfl m0 (fv_at (v := .float .f64 (F x5)) rfl)) ?_
     refine dV 29 rfl (y_fadd (a := (x1 + x3)) (b := x5) rfl rfl (by omega) (RF_F o5.lt) (by omega)) ?_
     refine dM 30 rfl rfl ?_
     refine dV 31 rfl (y_indexFv (j := 7) es_44 rfl rfl (by simp)) ?_
     refine dV 32 rfl (y_load1 ld_41 rfl m0 (fv_at (v := .float .f64 (F x7)) rfl)) ?_
     refine dV 33 rfl (y_fadd (a := (x1 + x3 + x5)) (b := x7) rfl rfl (by omega) (RF_F o7.lt) (by omega)) ?_
     refine dM 34 rfl rfl ?_
     refine dV 35 rfl (y_indexFv (j := 9) es_44 rfl rfl (by simp)) ?_
     refine dV 36 rfl (y_load1 ld_41 rfl m0 (fv_at (v := .float .f64 (F x9)) rfl)) ?_
     refine dV 37 rfl (y_fadd (a := (x1 + x3 + x5 + x7)) (b := x9) rfl rfl (by omega) (RF_F o9.lt) (by omega)) ?_
     refine dV 38 rfl (y_assign rfl) ?_
     refine dV 39 rfl (y_assign rfl) ?_
     refine d_end (by kernel_rfl) (.cons (.there .here) .nil) ?_
     refine q_then ?_
     refine c_seq ?_
     refine c_draw [(g, pre ++ ([x0, x1, x2, x3, x4, x5, x6, x7, x8, x9, x10].map flv ++ sp), 41)] mixed rfl ?_
     refine dM 0 rfl rfl ?_
     refine dN 1 rfl rfl ?_
     refine dV 2 rfl (y_fieldAddr fo_46_0 rfl) ?_
     refine dM 3 rfl rfl ?_
     refine dV 4 rfl (y_fvTo (fv := some (g, pre, sp, cap)) (xs := [x0, x1, x2, x3, x4, x5, x6, x7, x8, x9, x10].map flv) (k := 6) es_44 hfv rfl rfl (by simp)) ?_
     refine d_ready (i := 5) (rs := []) (by kernel_rfl) (.cons (.there .here) .nil) (all_one ?_)
     obtain ⟨hx0, hx1, hx2⟩ := abs4 hB0.x o0.big o2.big o4.big
     obtain ⟨hy0, hy1, hy2⟩ := abs4 hB0.y o1.big o3.big o5.big
     have hB1 := curveP_bd2 hB0 o0.big o1.big o2.big o3.big o4.big o5.big
     have hln1 : (curveP p x0 x1 x2 x3 x4 x5).out.length = p.out.length + 1 := curveP_len
     refine o_call rfl (no_guard rfl) ok_22 rfl rfl (out_mid (b := (bC, slV so p.out.length :: .float .f64 (F p.x) :: .float .f64 (F p.y) :: .bool p.o :: .float .f64 (F p.fx) :: .float .f64 (F p.fy) :: (fvV (some (g, pre, sp, cap)) [x0, x1, x2, x3, x4, x5, x6, x7, x8, x9, x10].length :: rest), 46)) (T := slH so (encS p.out) 34) [] [(g, pre ++ ([x0, x1, x2, x3, x4, x5, x6, x7, x8, x9, x10].map flv ++ sp), 41)] (fun w1 ha hb => f22_any w1 bC 6 cap p.x p.y p.fx p.fy x0 x1 x2 x3 x4 x5 (F x0) (F x1) (F x2) (F x3) (F x4) (F x5) [F x6, F x7, F x8, F x9, F x10] p.o p.out so (fvV (some (g, pre, sp, cap)) [x0, x1, x2, x3, x4, x5, x6, x7, x8, x9, x10].length :: rest) _ (by have := hB0.x; omega) (by have := hB0.y; omega) (RF_F o0.lt) (RF_F o1.lt) (RF_F o2.lt) (RF_F o3.lt) (RF_F o4.lt) (RF_F o5.lt) (by omega) (by omega) (by omega) (by omega) (by omega) (by omega) (by omega) hok (by omega) (RdF_fv (cap := cap) (qs := [x0, x1, x2, x3, x4, x5, x6, x7, x8, x9, x10]) (H1 := (bC, slV so p.out.length :: .float .f64 (F p.x) :: .float .f64 (F p.y) :: .bool p.o :: .float .f64 (F p.fx) :: .float .f64 (F p.fy) :: (fvV (some (g, pre, sp, cap)) [x0, x1, x2, x3, x4, x5, x6, x7, x8, x9, x10].length :: rest), 46) :: slH so (encS p.out) 34) (ha.perm (.cons _ List.perm_append_comm))) hb)) ?_
     intro so1 hok1
     refine d_end (by kernel_rfl) (.cons (.there .here) .nil) ?_
     refine qR ?_
     refine lM rfl ?_
     refine lM rfl ?_
     refine lV (y_fneg rfl) ?_
     refine lV (y_fmax rfl rfl (order_RF (RF_F (q := (x0 + x2 + x4 + x6 + x8)) (by omega)) (neg_RF (RF_F (q := (x0 + x2 + x4 + x6 + x8)) (by omega))))) ?_
     refine lM rfl ?_
     refine lM rfl ?_
     refine lV (y_fneg rfl) ?_
     refine lV (y_fmax rfl rfl (order_RF (RF_F (q := (x1 + x3 + x5 + x7 + x9)) (by omega)) (neg_RF (RF_F (q := (x1 + x3 + x5 + x7 + x9)) (by omega))))) ?_
     refine lV (y_fcmp rfl rfl (order_RF (RF_max (RF_F (q := (x0 + x2 + x4 + x6 + x8)) (by omega)) (neg_RF (RF_F (q := (x0 + x2 + x4 + x6 + x8)) (by omega)))) (RF_max (RF_F (q := (x1 + x3 + x5 + x7 + x9)) (by omega)) (neg_RF (RF_F (q := (x1 + x3 + x5 + x7 + x9)) (by omega))))) (cmp_gt _ _)) ?_
     refine nQ ?_
     refine c_cond rfl (fun hc185 => ?_) (fun hc185 => ?_)
     ·refine c_draw [(g, pre ++ ([x0, x1, x2, x3, x4, x5, x6, x7, x8, x9, x10].map flv ++ sp), 41)] mixed rfl ?_
      refine dM 0 rfl rfl ?_
      refine dN 1 rfl rfl ?_
      refine dV 2 rfl (y_fieldAddr fo_46_0 rfl) ?_
      refine dM 3 rfl rfl ?_
      refine dV 4 rfl (y_indexFv (j := 6) es_44 rfl rfl (by simp)) ?_
      refine dV 5 rfl (y_load1 ld_41 rfl m0 (fv_at (v := .float .f64 (F x6)) rfl)) ?_
      refine dM 6 rfl rfl ?_
      refine dV 7 rfl (y_indexFv (j := 7) es_44 rfl rfl (by simp)) ?_
      refine dV 8 rfl (y_load1 ld_41 rfl m0 (fv_at (v := .float .f64 (F x7)) rfl)) ?_
      refine dM 9 rfl rfl ?_
      refine dV 10 rfl (y_indexFv (j := 8) es_44 rfl rfl (by simp)) ?_
      refine dV 11 rfl (y_load1 ld_41 rfl m0 (fv_at (v := .float .f64 (F x8)) rfl)) ?_
      refine dM 12 rfl rfl ?_
      refine dV 13 rfl (y_indexFv (j := 9) es_44 rfl rfl (by simp)) ?_
      refine dV 14 rfl (y_load1 ld_41 rfl m0 (fv_at (v := .float .f64 (F x9)) rfl)) ?_
      refine dM 15 rfl rfl ?_
      refine dV 16 rfl (y_indexFv (j := 10) es_44 rfl rfl (by simp)) ?_
      refine dV 17 rfl (y_load1 ld_41 rfl m0 (fv_at (v := .float .f64 (F x10)) rfl)) ?_
      refine dM 18 rfl rfl ?_
      refine dV 19 rfl (y_fneg rfl) ?_
      refine d_ready (i := 20) (rs := []) (by kernel_rfl) (.cons (.there .here) .nil) (all_one ?_)
      refine o_gives rfl rfl rfl (g_buildSlice (cs := [_, _, _, _, _, _]) sl_44 sz_41 ze_41 rfl rfl rfl rfl (by simp [Value.cells]) rfl rfl) rfl ?_
      intro b206 hb206
      refine d_ready (i := 21) (rs := []) (by kernel_rfl) (.cons (.there (.there .here)) .nil) (all_one ?_)
      obtain ⟨hx0, hx1, hx2⟩ := abs4 hB1.x o6.big o8.big o10.big
      obtain ⟨hy0, hy1, hy2⟩ := abs4 hB1.y o7.big o9.big (neg_le hsy)
      have hB2 := curveP_bd2 hB1 o6.big o7.big o8.big o9.big o10.big (neg_le hsy)
      have hln2 : (curveP (curveP p x0 x1 x2 x3 x4 x5) x6 x7 x8 x9 x10 (-(x1 + x3 + x5 + x7 + x9))).out.length = (curveP p x0 x1 x2 x3 x4 x5).out.length + 1 := curveP_len
      refine o_call rfl (no_guard rfl) ok_22 rfl rfl (out_mid (b := (bC, slV so1 (curveP p x0 x1 x2 x3 x4 x5).out.length :: .float .f64 (F (curveP p x0 x1 x2 x3 x4 x5).x) :: .float .f64 (F (curveP p x0 x1 x2 x3 x4 x5).y) :: .bool (curveP p x0 x1 x2 x3 x4 x5).o :: .float .f64 (F (curveP p x0 x1 x2 x3 x4 x5).fx) :: .float .f64 (F (curveP p x0 x1 x2 x3 x4 x5).fy) :: (fvV (some (g, pre, sp, cap)) [x0, x1, x2, x3, x4, x5, x6, x7, x8, x9, x10].length :: rest), 46)) (T := slH so1 (encS (curveP p x0 x1 x2 x3 x4 x5).out) 34) [_] [(g, pre ++ ([x0, x1, x2, x3, x4, x5, x6, x7, x8, x9, x10].map flv ++ sp), 41)] (fun w1 ha hb => f22_any w1 bC 6 6 (curveP p x0 x1 x2 x3 x4 x5).x (curveP p x0 x1 x2 x3 x4 x5).y (curveP p x0 x1 x2 x3 x4 x5).fx (curveP p x0 x1 x2 x3 x4 x5).fy x6 x7 x8 x9 x10 (-(x1 + x3 + x5 + x7 + x9)) (F x6) (F x7) (F x8) (F x9) (F x10) (F (x1 + x3 + x5 + x7 + x9) ^^^ 2 ^ 63) [] (curveP p x0 x1 x2 x3 x4 x5).o (curveP p x0 x1 x2 x3 x4 x5).out so1 (fvV (some (g, pre, sp, cap)) [x0, x1, x2, x3, x4, x5, x6, x7, x8, x9, x10].length :: rest) _ (by have := hB1.x; omega) (by have := hB1.y; omega) (RF_F o6.lt) (RF_F o7.lt) (RF_F o8.lt) (RF_F o9.lt) (RF_F o10.lt) (neg_RF (RF_F (q := (x1 + x3 + x5 + x7 + x9)) (by omega))) (by omega) (by omega) (by omega) (by omega) (by omega) (by omega) (by omega) hok1 (by omega) (RdF_own6 (ha.sub (.cons .here (.cons .here (.skip .refl))))) hb)) ?_
      intro so2 hok2
      refine d_end (by kernel_rfl) (.cons (.there (.there .here)) .nil) ?_
      refine q_block ?_
      refine qG ?_
      refine lM rfl ?_
      refine lM rfl ?_
      refine lN rfl ?_
      refine lV (y_fieldAddr fo_46_1 rfl) ?_
      refine lV (y_load1 ld_44 rfl m1 rfl) ?_
      refine lV (y_fvTo (fv := some (g, pre, sp, cap)) (xs := [x0, x1, x2, x3, x4, x5, x6, x7, x8, x9, x10].map flv) (k := 0) es_44 hfv rfl rfl (Nat.zero_le _)) ?_
      refine lN rfl ?_
      refine lV (y_fieldAddr fo_46_1 rfl) ?_
      refine l_does rfl rfl (g_store1 (cs' := _ :: _ :: _ :: _ :: _ :: _ :: _ :: _) sz_44 rfl rfl rfl rfl rfl rfl (.there .here)) ?_
      intro _ _
      refine l_nil ?_
      refine q_perm (.cons _ (.cons _ (List.perm_append_comm (l₁ := [_])))) ?_
      exact body_ret (rs := []) rfl (vs := []) trivial (out_endP ((curveP (curveP p x0 x1 x2 x3 x4 x5) x6 x7 x8 x9 x10 (-(x1 + x3 + x5 + x7 + x9))), so2, some (g, pre, [x0, x1, x2, x3, x4, x5, x6, x7, x8, x9, x10].map flv ++ sp, cap)) ⟨(by simp only [flexP, if_true, hc185]; rfl), hop, hok2, fvOk.cut hfv⟩ rfl (.skip .refl)) _ (.inl rfl)
     ·refine c_draw [(g, pre ++ ([x0, x1, x2, x3, x4, x5, x6, x7, x8, x9, x10].map flv ++ sp), 41)] mixed rfl ?_
      refine dM 0 rfl rfl ?_
      refine dN 1 rfl rfl ?_
      refine dV 2 rfl (y_fieldAddr fo_46_0 rfl) ?_
      refine dM 3 rfl rfl ?_
      refine dV 4 rfl (y_indexFv (j := 6) es_44 rfl rfl (by simp)) ?_
      refine dV 5 rfl (y_load1 ld_41 rfl m0 (fv_at (v := .float .f64 (F x6)) rfl)) ?_
      refine dM 6 rfl rfl ?_
      refine dV 7 rfl (y_indexFv (j := 7) es_44 rfl rfl (by simp)) ?_
      refine dV 8 rfl (y_load1 ld_41 rfl m0 (fv_at (v := .float .f64 (F x7)) rfl)) ?_
      refine dM 9 rfl rfl ?_
      refine dV 10 rfl (y_indexFv (j := 8) es_44 rfl rfl (by simp)) ?_
      refine dV 11 rfl (y_load1 ld_41 rfl m0 (fv_at (v := .float .f64 (F x8)) rfl)) ?_
      refine dM 12 rfl rfl ?_
      refine dV 13 rfl (y_indexFv (j := 9) es_44 rfl rfl (by simp)) ?_
      refine dV 14 rfl (y_load1 ld_41 rfl m0 (fv_at (v := .float .f64 (F x9)) rfl)) ?_
      refine dM 15 rfl rfl ?_
      refine dV 16 rfl (y_fneg rfl) ?_
      refine dM 17 rfl rfl ?_
      refine dV 18 rfl (y_indexFv (j := 10) es_44 rfl rfl (by simp)) ?_
      refine dV 19 rfl (y_load1 ld_41 rfl m0 (fv_at (v := .float .f64 (F x10)) rfl)) ?_
      refine d_ready (i := 20) (rs := []) (by kernel_rfl) (.cons (.there .here) .nil) (all_one ?_)
      refine o_gives rfl rfl rfl (g_buildSlice (cs := [_, _, _, _, _, _]) sl_44 sz_41 ze_41 rfl rfl rfl rfl (by simp [Value.cells]) rfl rfl) rfl ?_
      intro b228 hb228
      refine d_ready (i := 21) (rs := []) (by kernel_rfl) (.cons (.there (.there .here)) .nil) (all_one ?_)
      obtain ⟨hx0, hx1, hx2⟩ := abs4 hB1.x o6.big o8.big (neg_le hsx)
      obtain ⟨hy0, hy1, hy2⟩ := abs4 hB1.y o7.big o9.big o10.big
      have hB2 := curveP_bd2 hB1 o6.big o7.big o8.big o9.big (neg_le hsx) o10.big
      have hln2 : (curveP (curveP p x0 x1 x2 x3 x4 x5) x6 x7 x8 x9 (-(x0 + x2 + x4 + x6 + x8)) x10).out.length = (curveP p x0 x1 x2 x3 x4 x5).out.length + 1 := curveP_len
      refine o_call rfl (no_guard rfl) ok_22 rfl rfl (out_mid (b := (bC, slV so1 (curveP p x0 x1 x2 x3 x4 x5).out.length :: .float .f64 (F (curveP p x0 x1 x2 x3 x4 x5).x) :: .float .f64 (F (curveP p x0 x1 x2 x3 x4 x5).y) :: .bool (curveP p x0 x1 x2 x3 x4 x5).o :: .float .f64 (F (curveP p x0 x1 x2 x3 x4 x5).fx) :: .float .f64 (F (curveP p x0 x1 x2 x3 x4 x5).fy) :: (fvV (some (g, pre, sp, cap)) [x0, x1, x2, x3, x4, x5, x6, x7, x8, x9, x10].length :: rest), 46)) (T := slH so1 (encS (curveP p x0 x1 x2 x3 x4 x5).out) 34) [_] [(g, pre ++ ([x0, x1, x2, x3, x4, x5, x6, x7, x8, x9, x10].map flv ++ sp), 41)] (fun w1 ha hb => f22_any w1 bC 6 6 (curveP p x0 x1 x2 x3 x4 x5).x (curveP p x0 x1 x2 x3 x4 x5).y (curveP p x0 x1 x2 x3 x4 x5).fx (curveP p x0 x1 x2 x3 x4 x5).fy x6 x7 x8 x9 (-(x0 + x2 + x4 + x6 + x8)) x10 (F x6) (F x7) (F x8) (F x9) (F (x0 + x2 + x4 + x6 + x8) ^^^ 2 ^ 63) (F x10) [] (curveP p x0 x1 x2 x3 x4 x5).o (curveP p x0 x1 x2 x3 x4 x5).out so1 (fvV (some (g, pre, sp, cap)) [x0, x1, x2, x3, x4, x5, x6, x7, x8, x9, x10].length :: rest) _ (by have := hB1.x; omega) (by have := hB1.y; omega) (RF_F o6.lt) (RF_F o7.lt) (RF_F o8.lt) (RF_F o9.lt) (neg_RF (RF_F (q := (x0 + x2 + x4 + x6 + x8)) (by omega))) (RF_F o10.lt) (by omega) (by omega) (by omega) (by omega) (by omega) (by omega) (by omega) hok1 (by omega) (RdF_own6 (ha.sub (.cons .here (.cons .here (.skip .refl))))) hb)) ?_
      intro so2 hok2
      refine d_end (by kernel_rfl) (.cons (.there (.there .here)) .nil) ?_
      refine q_block ?_
      refine qG ?_
      refine lM rfl ?_
      refine lM rfl ?_
      refine lN rfl ?_
      refine lV (y_fieldAddr fo_46_1 rfl) ?_
      refine lV (y_load1 ld_44 rfl m1 rfl) ?_
      refine lV (y_fvTo (fv := some (g, pre, sp, cap)) (xs := [x0, x1, x2, x3, x4, x5, x6, x7, x8, x9, x10].map flv) (k := 0) es_44 hfv rfl rfl (Nat.zero_le _)) ?_
      refine lN rfl ?_
      refine lV (y_fieldAddr fo_46_1 rfl) ?_
      refine l_does rfl rfl (g_store1 (cs' := _ :: _ :: _ :: _ :: _ :: _ :: _ :: _) sz_44 rfl rfl rfl rfl rfl rfl (.there .here)) ?_
      intro _ _
      refine l_nil ?_
      refine q_perm (.cons _ (.cons _ (List.perm_append_comm (l₁ := [_])))) ?_
      exact body_ret (rs := []) rfl (vs := []) trivial (out_endP ((curveP (curveP p x0 x1 x2 x3 x4 x5) x6 x7 x8 x9 (-(x0 + x2 + x4 + x6 + x8)) x10), so2, some (g, pre, [x0, x1, x2, x3, x4, x5, x6, x7, x8, x9, x10].map flv ++ sp, cap)) ⟨(by simp only [flexP, if_true, hc185]; rfl), hop, hok2, fvOk.cut hfv⟩ rfl (.skip .refl)) _ (.inl rfl)
    ·refine c_region ?_
     refine l_callP hP ok_19 rfl rfl (out_newP (fun w1 hw1 => f19_any w1)) ?_
     intro _ hF
     exact absurd hF (by simp)
end Go.Proofs.YtbepljmeflndkaaGreatDoor
namespace Go.Proofs.YtbepljmeflndkaaGreatDoor
open Go.Eng Go.Fl
/-- Bytes that a slice has, in memory that was there and is not among S. -/
def RdB (w : World) (S : List Nat) (A : Option Addr) (bs : List Nat) : Prop := ∀ i u, bs[i]? = some u → ∃ p, A = some p ∧ p.block < w.heap.size ∧ p.block ∉ S ∧ w.cell? (p.add i) = some (.int .u8 (u : Nat))
theorem RdB.into {w0 w : World} {S : List Nat} {H : Heap} {A : Option Addr} {bs : List Nat} (h : RdB w0 S A bs) (hw : Hp w0 S H w) : RdB w (H.map (·.1)) A bs := by
  intro i c hc
  obtain ⟨p, rfl, hb, hS, hcell⟩ := h i c hc
  refine ⟨p, rfl, Nat.lt_of_lt_of_le hb hw.size, ?_, ?_⟩
  · intro hm
    obtain ⟨⟨g, cs, e⟩, hg, he⟩ := List.mem_map.1 hm
    simp only at he
    rcases (hw.blk g cs e hg).2 with h1 | h1
    · exact hS (he ▸ h1)
    · omega
  · rw [hw.oldCell (by rw [block_add]; exact hb) (by rw [block_add]; exact hS)]
    exact hcell
theorem RdB.empty {w0 w : World} {S : List Nat} {H : Heap} {A : Option Addr} {bs : List Nat} (h : RdB w0 S A bs) (hw : Hp w0 S H w) : RdB w [] A bs := by
  intro i c hc
  obtain ⟨p, hp, hb, _, hcell⟩ := h.into hw i c hc
  exact ⟨p, hp, hb, List.not_mem_nil, hcell⟩
theorem RdB.drop {w : World} {S : List Nat} {p : Addr} {bs : List Nat} {k cl : Nat} (h : RdB w S (some p) bs) (h1 : k ≤ bs.length) (h2 : bs.length ≤ cl) : RdB w S (some (if cl = k then p else p.add (k * 1))) (bs.drop k) := by
  intro i u hu
  rw [List.getElem?_drop] at hu
  have hl := (List.getElem?_eq_some_iff.1 hu).1
  obtain ⟨q, hq, hb, hS, hc⟩ := h _ _ hu
  injection hq with hq
  subst hq
  rw [if_neg (by omega)]
  exact ⟨_, rfl, by rw [block_add]; exact hb, by rw [block_add]; exact hS, by rw [add_add, Nat.mul_one]; exact hc⟩
theorem RdB.ptr {w : World} {S : List Nat} {A : Option Addr} {v : Nat} {r : List Nat} (h : RdB w S A (v :: r)) : ∃ p, A = some p ∧ p.block < w.heap.size ∧ p.block ∉ S ∧ ∀ i u, (v :: r)[i]? = some u → w.cell? (p.add i) = some (.int .u8 (u : Nat)) := by
  obtain ⟨p, hp, hb, hS, _⟩ := h 0 v rfl
  refine ⟨p, hp, hb, hS, fun i u hu => ?_⟩
  obtain ⟨q, hq, _, _, hc⟩ := h i u hu
  rw [hp] at hq
  injection hq with hq
  subst hq
  exact hc
def sizeN (v : Nat) : Nat := if v = 28 then 3 else if v = 255 then 5 else if 247 ≤ v then 2 else 1
theorem F_65536 : F 4294967296 = 4679240012837945344 := by kernel_rfl
theorem y_div65 {P : Program} {n : Nat} {D : List Deferred} {w0 : World} {S : List Nat} {L : Slots} {H : Heap} {d : Option Tmp} {ty : TypeId} {pos : String} {af : Array Edge} {gd : Option (Nat × Bool)} {t u : TypeId} {x y : Operand} {i : Int} (hx : ev L x = some (.float .f64 (F (i * 65536)))) (hy : ev L y = some (.float .f64 4679240012837945344)) (hi : i.natAbs < 2 ^ 37) :
    Go.Eng.Yields P n D w0 S ⟨d, .binOp .quo t x y u, ty, pos, af, gd⟩ L H (.float .f64 (F i)) := by
  rw [← F_65536] at hy
  exact y_farith hx hy (show floatBits .quo .f64 _ _ = _ from div_F i hi)
theorem numB_cons (v : Nat) (r : List Nat) : numB (v :: r) = (if v = 28 then (match r with | a :: b :: _ => some (IntKind.i16.wrap ((a * 256 + b : Nat) : Int) * 65536, 3) | _ => none)
    else if v = 255 then (match r with | a :: b :: c :: d :: _ => some (IntKind.i32.wrap ((((a * 256 + b) * 256 + c) * 256 + d : Nat) : Int), 5) | _ => none)
    else if 251 ≤ v then (match r with | a :: _ => some ((-((v : Int) - 251) * 256 - a - 108) * 65536, 2) | _ => none)
    else if 247 ≤ v then (match r with | a :: _ => some ((((v : Int) - 247) * 256 + a + 108) * 65536, 2) | _ => none)
    else some (((v : Int) - 139) * 65536, 1)) := rfl
theorem wrap_i16 (z : Int) : -32768 ≤ IntKind.i16.wrap z ∧ IntKind.i16.wrap z ≤ 32767 := by
  simp only [IntKind.wrap, IntKind.bits, IntKind.signed]; simp; split <;> omega
theorem wrap_i32 (z : Int) : -2147483648 ≤ IntKind.i32.wrap z ∧ IntKind.i32.wrap z ≤ 2147483647 := by
  simp only [IntKind.wrap, IntKind.bits, IntKind.signed]; simp; split <;> omega
theorem numB_all {v : Nat} {r : List Nat} {z : Int × Nat} (h : numB (v :: r) = some z) (hb : ∀ u ∈ v :: r, u < 256) : z.2 = sizeN v ∧ z.2 ≤ (v :: r).length ∧ Opd z.1 := by
  have hv := hb v (by simp)
  rw [numB_cons] at h
  unfold sizeN Opd
  by_cases h1 : v = 28
  · rw [if_pos h1] at h ⊢
    match r, h with
    | a :: b :: r', h =>
      injection h with h; subst h
      have := wrap_i16 ((a * 256 + b : Nat) : Int)
      refine ⟨rfl, by simp, ?_⟩
      simp only
      omega
    | [_], h => cases h
    | [], h => cases h
  rw [if_neg h1] at h ⊢
  by_cases h2 : v = 255
  · rw [if_pos h2] at h ⊢
    match r, h with
    | a :: b :: c :: d :: r', h =>
      injection h with h; subst h
      have := wrap_i32 ((((a * 256 + b) * 256 + c) * 256 + d : Nat) : Int)
      refine ⟨rfl, by simp, ?_⟩
      simp only
      omega
    | [_, _, _], h => cases h
    | [_, _], h => cases h
    | [_], h => cases h
    | [], h => cases h
  rw [if_neg h2] at h ⊢
  by_cases h3 : 251 ≤ v
  · rw [if_pos h3] at h
    rw [if_pos (by omega)]
    match r, h with
    | a :: r', h =>
      injection h with h; subst h
      have ha := hb a (by simp)
      refine ⟨rfl, by simp, ?_⟩
      simp only
      omega
    | [], h => cases h
  rw [if_neg h3] at h
  by_cases h4 : 247 ≤ v
  · rw [if_pos h4] at h ⊢
    match r, h with
    | a :: r', h =>
      injection h with h; subst h
      have ha := hb a (by simp)
      refine ⟨rfl, by simp, ?_⟩
      simp only
      omega
    | [], h => cases h
  rw [if_neg h4] at h ⊢
  injection h with h; subst h
  refine ⟨rfl, by simp, ?_⟩
  simp only
  omega
end Go.Proofs.YtbepljmeflndkaaGreatDoor
namespace Go.Proofs.YtbepljmeflndkaaGreatDoor
open Go.Eng Go.Fl
set_option maxRecDepth 100000
attribute [local irreducible] IntKind.wrap Int.tdiv Int.tmod Int.emod maxLen F G
set_option maxHeartbeats 8000000 in
theorem f13_any (w : World) (cl v : Nat) (r : List Nat) (A : Option Addr) (hb : ∀ u ∈ v :: r, u < 256) (hR : RdB w [] A (v :: r)) : Calls Tryz.prog 13 [.slice A (v :: r).length cl].toArray w (OutP w [] (fun z : Int × Nat => numB (v :: r) = some z) (fun z => .tuple #[.float .f64 (F z.1), .int .i64 (z.2 : Nat)]) (fun z => []) PO) := by
 have hP : Pq PO (bodyPost Tryz.prog Tryz.f13 (OutP w [] (fun z : Int × Nat => numB (v :: r) = some z) (fun z => .tuple #[.float .f64 (F z.1), .int .i64 (z.2 : Nat)]) (fun z => []) PO)) 102 [] w [] := bodyP_out
 obtain ⟨p, rfl, hpb, hpS, hpc⟩ := hR.ptr
 have hv := hb v (by simp)
 refine enter (n := 102) Tryz.func13 rfl rfl rfl (Hp.refl w) ?_
 refine cR ?_
 refine lA rfl ?_
 refine lA rfl ?_
 refine nR ?_
 refine lM rfl ?_
 refine lV (y_indexAddr (j := 0) es_22 rfl rfl (by simp)) ?_
 refine lV (y_oldLoad1 ld_5 rfl (by rw [block_add]; exact hpb) (by rw [block_add]; exact hpS) (hpc 0 v rfl)) ?_
 refine lV (y_conv cv_5_3 rfl (fitN (m := v) rfl (by omega))) ?_
 refine lA rfl ?_
 refine nR ?_
 refine lA rfl ?_
 refine nQ ?_
 refine c_seq ?_
 refine c_block ?_
 refine cR ?_
 refine lM rfl ?_
 refine lB rfl rfl rfl rfl ?_
 refine lA rfl ?_
 refine nQ ?_
 refine c_cut (ι := Nat) (φ := fun z => z = sizeN v) (L' := fun z => [(0, .slice (some p) (v :: r).length cl), (4, .int .i64 v), (5, .int .i64 z)]) (H' := fun _ => []) ?_ ?_
 ·refine c_cond rfl (fun hc10 => ?_) (fun hc10 => ?_)
  ·have h28 : v = 28 := by simp only [beq_iff_eq] at hc10; omega
   refine c_region ?_
   refine lA rfl ?_
   refine l_nil ?_
   exact q_cut 3 (by simp [sizeN, h28]) ⟨rfl, rfl, rfl, trivial⟩ .nil
  ·have h28 : ¬ v = 28 := by simp only [beq_eq_false_iff_ne] at hc10; omega
   refine cR ?_
   refine lM rfl ?_
   refine lB rfl rfl rfl rfl ?_
   refine lA rfl ?_
   refine nQ ?_
   refine c_cond rfl (fun hc13 => ?_) (fun hc13 => ?_)
   ·have h255 : v = 255 := by simp only [beq_iff_eq] at hc13; omega
    refine c_region ?_
    refine lA rfl ?_
    refine l_nil ?_
    exact q_cut 5 (by simp [sizeN, h28, h255]) ⟨rfl, rfl, rfl, trivial⟩ .nil
   ·have h255 : ¬ v = 255 := by simp only [beq_eq_false_iff_ne] at hc13; omega
    refine cR ?_
    refine lM rfl ?_
    refine lB rfl rfl rfl rfl ?_
    refine lA rfl ?_
    refine nQ ?_
    refine c_cond rfl (fun hc16 => ?_) (fun hc16 => ?_)
    ·have h247 : 247 ≤ v := by simp only [decide_eq_true_eq] at hc16; omega
     refine c_region ?_
     refine lA rfl ?_
     refine l_nil ?_
     exact q_cut 2 (by simp [sizeN, h28, h255, h247]) ⟨rfl, rfl, rfl, trivial⟩ .nil
    ·have h247 : ¬ 247 ≤ v := by simp only [decide_eq_false_iff_not] at hc16; omega
     refine c_skip ?_
     exact q_cut 1 (by simp [sizeN, h28, h255, h247]) ⟨rfl, rfl, rfl, trivial⟩ .nil
 intro sz hsz
 subst hsz
 refine q_block ?_
 refine qR ?_
 refine lM rfl ?_
 refine lV (y_len sl_22 rfl) ?_
 refine lM rfl ?_
 refine lB rfl rfl rfl rfl ?_
 refine l_callP hP ok_12 rfl rfl (out_keepP (fun w1 => f12_any w1 _)) ?_
 intro _ hn
 have hsz : sizeN v ≤ (v :: r).length := by simp only [decide_eq_true_eq] at hn; omega
 simp only [List.length_cons] at hsz
 refine nQ ?_
 refine c_seq ?_
 refine c_block ?_
 refine cR ?_
 refine lM rfl ?_
 refine lB rfl rfl rfl rfl ?_
 refine lA rfl ?_
 refine nQ ?_
 refine c_cond rfl (fun hc24 => ?_) (fun hc24 => ?_)
 ·have h28 : v = 28 := by simp only [beq_iff_eq] at hc24; omega
  subst h28
  have hsz2 : 2 ≤ r.length := by have : sizeN 28 = 3 := rfl; omega
  obtain ⟨a, r1, rfl, hr1⟩ := consN (l := r) (n := r.length - 1) (by omega)
  obtain ⟨b, r2, rfl, hr2⟩ := consN (l := r1) (n := r1.length - 1) (by simp only [List.length_cons] at hsz2; omega)
  have ha := hb a (by simp)
  have hb2 := hb b (by simp)
  refine c_seq ?_
  refine c_drawH mixed rfl ?_
  refine dM 0 rfl rfl ?_
  refine dV 1 rfl (y_indexAddr (j := 1) es_22 rfl rfl (by simp)) ?_
  refine dV 2 rfl (y_oldLoad1 ld_5 rfl (by rw [block_add]; exact hpb) (by rw [block_add]; exact hpS) (hpc 1 a rfl)) ?_
  refine dV 3 rfl (y_conv cv_5_3 rfl (fitN (m := a) rfl (by omega))) ?_
  refine dV 4 rfl (y_shl (s := 8) rfl rfl (by decide) (fitN (m := a * 2 ^ 8) (by omega) (by omega))) ?_
  refine dM 5 rfl rfl ?_
  refine dV 6 rfl (y_indexAddr (j := 2) es_22 rfl rfl (by simp)) ?_
  refine dV 7 rfl (y_oldLoad1 ld_5 rfl (by rw [block_add]; exact hpb) (by rw [block_add]; exact hpS) (hpc 2 b rfl)) ?_
  refine dV 8 rfl (y_conv cv_5_3 rfl (fitN (m := b) rfl (by omega))) ?_
  refine dV 9 rfl (y_or rfl rfl (orI (m := a * 256 + b) (a := a) (s := 8) rfl (by omega) rfl (by omega))) ?_
  refine dV 10 rfl (y_conv cv_3_78 rfl rfl) ?_
  refine dV 11 rfl (y_convIF cf_78_41 rfl (by have := wrap_i16 ((a * 256 + b : Nat) : Int); omega)) ?_
  refine dM 12 rfl rfl ?_
  refine dV 13 rfl (y_assign rfl) ?_
  refine dV 14 rfl (y_assign rfl) ?_
  refine d_end (by kernel_rfl) .nil ?_
  refine q_then ?_
  refine c_ret ?_
  refine q_block_ret ?_
  refine q_then_ret ?_
  exact body_ret (rs := [.tmp 2, .tmp 3]) rfl (vs := [.float .f64 (F (IntKind.i16.wrap ((a * 256 + b : Nat) : Int) * 65536)), .int .i64 (sizeN 28 : Nat)]) ⟨rfl, rfl, trivial⟩ (out_endP (IntKind.i16.wrap ((a * 256 + b : Nat) : Int) * 65536, sizeN 28) (by rfl) rfl .refl) _ (.inr rfl)
 ·have h28 : ¬ v = 28 := by simp only [beq_eq_false_iff_ne] at hc24; omega
  refine cR ?_
  refine lM rfl ?_
  refine lB rfl rfl rfl rfl ?_
  refine lA rfl ?_
  refine nQ ?_
  refine c_cond rfl (fun hc40 => ?_) (fun hc40 => ?_)
  ·have h255 : v = 255 := by simp only [beq_iff_eq] at hc40; omega
   subst h255
   have hsz2 : 4 ≤ r.length := by have : sizeN 255 = 5 := rfl; omega
   obtain ⟨a, r1, rfl, hr1⟩ := consN (l := r) (n := r.length - 1) (by omega)
   simp only [List.length_cons] at hsz2
   obtain ⟨b, r2, rfl, hr2⟩ := consN (l := r1) (n := r1.length - 1) (by omega)
   simp only [List.length_cons] at hsz2
   obtain ⟨c, r3, rfl, hr3⟩ := consN (l := r2) (n := r2.length - 1) (by omega)
   simp only [List.length_cons] at hsz2
   obtain ⟨d, r4, rfl, hr4⟩ := consN (l := r3) (n := r3.length - 1) (by omega)
   have ha := hb a (by simp)
   have hb2 := hb b (by simp)
   have hc2 := hb c (by simp)
   have hd2 := hb d (by simp)
   have hwr := wrap_i32 ((((a * 256 + b) * 256 + c) * 256 + d : Nat) : Int)
   refine c_seq ?_
   refine c_drawH mixed rfl ?_
   refine dM 0 rfl rfl ?_
   refine dV 1 rfl (y_indexAddr (j := 1) es_22 rfl rfl (by simp)) ?_
   refine dV 2 rfl (y_oldLoad1 ld_5 rfl (by rw [block_add]; exact hpb) (by rw [block_add]; exact hpS) (hpc 1 a rfl)) ?_
   refine dV 3 rfl (y_conv cv_5_80 rfl (fitU (m := a) rfl (by omega))) ?_
   refine dV 4 rfl (y_shl (s := 24) rfl rfl (by decide) (fitU (m := a * 2 ^ 24) (by omega) (by omega))) ?_
   refine dM 5 rfl rfl ?_
   refine dV 6 rfl (y_indexAddr (j := 2) es_22 rfl rfl (by simp)) ?_
   refine dV 7 rfl (y_oldLoad1 ld_5 rfl (by rw [block_add]; exact hpb) (by rw [block_add]; exact hpS) (hpc 2 b rfl)) ?_
   refine dV 8 rfl (y_conv cv_5_80 rfl (fitU (m := b) rfl (by omega))) ?_
   refine dV 9 rfl (y_shl (s := 16) rfl rfl (by decide) (fitU (m := b * 2 ^ 16) (by omega) (by omega))) ?_
   refine dV 10 rfl (y_or rfl rfl (orU (m := (a * 256 + b) * 2 ^ 16) (a := a) (s := 24) rfl (by omega) (by omega) (by omega))) ?_
   refine dM 11 rfl rfl ?_
   refine dV 12 rfl (y_indexAddr (j := 3) es_22 rfl rfl (by simp)) ?_
   refine dV 13 rfl (y_oldLoad1 ld_5 rfl (by rw [block_add]; exact hpb) (by rw [block_add]; exact hpS) (hpc 3 c rfl)) ?_
   refine dV 14 rfl (y_conv cv_5_80 rfl (fitU (m := c) rfl (by omega))) ?_
   refine dV 15 rfl (y_shl (s := 8) rfl rfl (by decide) (fitU (m := c * 2 ^ 8) (by omega) (by omega))) ?_
   refine dV 16 rfl (y_or rfl rfl (orU (m := ((a * 256 + b) * 256 + c) * 2 ^ 8) (a := a * 256 + b) (s := 16) rfl (by omega) (by omega) (by omega))) ?_
   refine dM 17 rfl rfl ?_
   refine dV 18 rfl (y_indexAddr (j := 4) es_22 rfl rfl (by simp)) ?_
   refine dV 19 rfl (y_oldLoad1 ld_5 rfl (by rw [block_add]; exact hpb) (by rw [block_add]; exact hpS) (hpc 4 d rfl)) ?_
   refine dV 20 rfl (y_conv cv_5_80 rfl (fitU (m := d) rfl (by omega))) ?_
   refine dV 21 rfl (y_or rfl rfl (orU (m := ((a * 256 + b) * 256 + c) * 256 + d) (a := (a * 256 + b) * 256 + c) (s := 8) rfl (by omega) (by omega) (by omega))) ?_
   refine dV 22 rfl (y_conv cv_80_21 rfl rfl) ?_
   refine dV 23 rfl (y_convIF cf_21_41 rfl (by omega)) ?_
   refine dV 24 rfl (y_div65 rfl rfl (by omega)) ?_
   refine dM 25 rfl rfl ?_
   refine dV 26 rfl (y_assign rfl) ?_
   refine dV 27 rfl (y_assign rfl) ?_
   refine d_end (by kernel_rfl) .nil ?_
   refine q_then ?_
   refine c_ret ?_
   refine q_block_ret ?_
   refine q_then_ret ?_
   exact body_ret (rs := [.tmp 2, .tmp 3]) rfl (vs := [.float .f64 (F (IntKind.i32.wrap ((((a * 256 + b) * 256 + c) * 256 + d : Nat) : Int))), .int .i64 (sizeN 255 : Nat)]) ⟨rfl, rfl, trivial⟩ (out_endP (IntKind.i32.wrap ((((a * 256 + b) * 256 + c) * 256 + d : Nat) : Int), sizeN 255) (by rfl) rfl .refl) _ (.inr rfl)
  ·have h255 : ¬ v = 255 := by simp only [beq_eq_false_iff_ne] at hc40; omega
   refine cR ?_
   refine lM rfl ?_
   refine lB rfl rfl rfl rfl ?_
   refine lA rfl ?_
   refine nQ ?_
   refine c_cond rfl (fun hc69 => ?_) (fun hc69 => ?_)
   ·have h251 : 251 ≤ v := by simp only [decide_eq_true_eq] at hc69; omega
    have hs2 : sizeN v = 2 := by simp [sizeN, h28, h255]; omega
    obtain ⟨a, r1, rfl, hr1⟩ := consN (l := r) (n := r.length - 1) (by omega)
    have ha := hb a (by simp)
    refine cR ?_
    refine lM rfl ?_
    refine lV (y_bin rfl rfl rfl (fit64 (by omega) (by omega))) ?_
    refine lV (y_neg rfl (fit64 (by omega) (by omega))) ?_
    refine lV (y_bin rfl rfl rfl (fit64 (by omega) (by omega))) ?_
    refine lM rfl ?_
    refine lV (y_indexAddr (j := 1) es_22 rfl rfl (by simp)) ?_
    refine lV (y_oldLoad1 ld_5 rfl (by rw [block_add]; exact hpb) (by rw [block_add]; exact hpS) (hpc 1 a rfl)) ?_
    refine lV (y_conv cv_5_3 rfl (fitN (m := a) rfl (by omega))) ?_
    refine lV (y_bin rfl rfl rfl (fit64 (by omega) (by omega))) ?_
    refine lV (y_bin rfl rfl rfl (fit64 (by omega) (by omega))) ?_
    refine lV (y_convIF cf_3_41 rfl (by omega)) ?_
    refine lM rfl ?_
    refine lA rfl ?_
    refine lA rfl ?_
    refine nQ ?_
    refine c_ret ?_
    refine q_block_ret ?_
    refine q_then_ret ?_
    exact body_ret (rs := [.tmp 2, .tmp 3]) rfl (vs := [.float .f64 (F ((-((v : Int) - 251) * 256 - a - 108) * 65536)), .int .i64 (sizeN v : Nat)]) ⟨rfl, rfl, trivial⟩ (out_endP ((-((v : Int) - 251) * 256 - a - 108) * 65536, sizeN v) (by rw [numB_cons, if_neg h28, if_neg h255, if_pos h251, hs2]) rfl .refl) _ (.inr rfl)
   ·have h251 : ¬ 251 ≤ v := by simp only [decide_eq_false_iff_not] at hc69; omega
    refine cR ?_
    refine lM rfl ?_
    refine lB rfl rfl rfl rfl ?_
    refine lA rfl ?_
    refine nQ ?_
    refine c_cond rfl (fun hc84 => ?_) (fun hc84 => ?_)
    ·have h247 : 247 ≤ v := by simp only [decide_eq_true_eq] at hc84; omega
     have hs2 : sizeN v = 2 := by simp [sizeN, h28, h255, h247]
     obtain ⟨a, r1, rfl, hr1⟩ := consN (l := r) (n := r.length - 1) (by omega)
     have ha := hb a (by simp)
     refine cR ?_
     refine lM rfl ?_
     refine lV (y_bin rfl rfl rfl (fit64 (by omega) (by omega))) ?_
     refine lV (y_bin rfl rfl rfl (fit64 (by omega) (by omega))) ?_
     refine lM rfl ?_
     refine lV (y_indexAddr (j := 1) es_22 rfl rfl (by simp)) ?_
     refine lV (y_oldLoad1 ld_5 rfl (by rw [block_add]; exact hpb) (by rw [block_add]; exact hpS) (hpc 1 a rfl)) ?_
     refine lV (y_conv cv_5_3 rfl (fitN (m := a) rfl (by omega))) ?_
     refine lV (y_bin rfl rfl rfl (fit64 (by omega) (by omega))) ?_
     refine lV (y_bin rfl rfl rfl (fit64 (by omega) (by omega))) ?_
     refine lV (y_convIF cf_3_41 rfl (by omega)) ?_
     refine lM rfl ?_
     refine lA rfl ?_
     refine lA rfl ?_
     refine nQ ?_
     refine c_ret ?_
     refine q_block_ret ?_
     refine q_then_ret ?_
     exact body_ret (rs := [.tmp 2, .tmp 3]) rfl (vs := [.float .f64 (F ((((v : Int) - 247) * 256 + a + 108) * 65536)), .int .i64 (sizeN v : Nat)]) ⟨rfl, rfl, trivial⟩ (out_endP ((((v : Int) - 247) * 256 + a + 108) * 65536, sizeN v) (by rw [numB_cons, if_neg h28, if_neg h255, if_neg h251, if_pos h247, hs2]) rfl .refl) _ (.inr rfl)
    ·have h247 : ¬ 247 ≤ v := by simp only [decide_eq_false_iff_not] at hc84; omega
     have hs2 : sizeN v = 1 := by simp [sizeN, h28, h255, h247]
     refine c_skip ?_
     refine q_block ?_
     refine qR ?_
     refine lM rfl ?_
     refine lV (y_bin rfl rfl rfl (fit64 (by omega) (by omega))) ?_
     refine lV (y_convIF cf_3_41 rfl (by omega)) ?_
     refine lM rfl ?_
     refine lA rfl ?_
     refine lA rfl ?_
     refine nQ ?_
     refine c_ret ?_
     exact body_ret (rs := [.tmp 2, .tmp 3]) rfl (vs := [.float .f64 (F (((v : Int) - 139) * 65536)), .int .i64 (sizeN v : Nat)]) ⟨rfl, rfl, trivial⟩ (out_endP (((v : Int) - 139) * 65536, sizeN v) (by rw [numB_cons, if_neg h28, if_neg h255, if_neg h251, if_neg h247, hs2]) rfl .refl) _ (.inr rfl)
end Go.Proofs.YtbepljmeflndkaaGreatDoor
namespace Go.Proofs.YtbepljmeflndkaaGreatDoor
open Go.Eng Go.Fl
set_option maxRecDepth 100000
attribute [local irreducible] IntKind.wrap Int.tdiv Int.tmod Int.emod maxLen F G
theorem fvV_cells (fv : Fv) (m : Nat) : (fvV fv m).cells = #[fvV fv m] := by cases fv <;> rfl
theorem fvV_one (fv : Fv) (m : Nat) : (fvV fv m).oneCell' = true := by cases fv <;> rfl
theorem heap_eq {b : Blk} {A X Y : Heap} (h : X = Y) : (b :: (A ++ Y)).Perm (b :: (A ++ X)) := by subst h; exact .refl _
set_option maxHeartbeats 8000000 in
theorem f23_n (w : World) (n : Nat) (hn3 : n ≤ 5) (bC : Nat) (p : PSt) (so : Sv) (sf : Fv) (st : List Int) (lo gl : Value) (stems : Nat) (masked begun ended : Bool) (deep ops : Nat) (hlen : st.length ≤ 48) (hfv : fvOk sf (st.map flv)) (hw : Hp w (((bC, slV so p.out.length :: .float .f64 (F p.x) :: .float .f64 (F p.y) :: .bool p.o :: .float .f64 (F p.fx) :: .float .f64 (F p.fy) :: fvV sf st.length :: [lo, gl, .int .i64 (stems : Nat), .bool masked, .bool begun, .bool ended, .int .i64 (deep : Nat), .int .i64 (ops : Nat)], 46) :: (slH so (encS p.out) 34 ++ fvH sf (st.map flv) 41)).map (·.1)) ((bC, slV so p.out.length :: .float .f64 (F p.x) :: .float .f64 (F p.y) :: .bool p.o :: .float .f64 (F p.fx) :: .float .f64 (F p.fy) :: fvV sf st.length :: [lo, gl, .int .i64 (stems : Nat), .bool masked, .bool begun, .bool ended, .int .i64 (deep : Nat), .int .i64 (ops : Nat)], 46) :: (slH so (encS p.out) 34 ++ fvH sf (st.map flv) 41)) w) : Calls Tryz.prog 23 [.pointer (some ⟨bC, 0, none⟩), .int .i64 (n : Int)].toArray w (OutP w (((bC, slV so p.out.length :: .float .f64 (F p.x) :: .float .f64 (F p.y) :: .bool p.o :: .float .f64 (F p.fx) :: .float .f64 (F p.fy) :: fvV sf st.length :: [lo, gl, .int .i64 (stems : Nat), .bool masked, .bool begun, .bool ended, .int .i64 (deep : Nat), .int .i64 (ops : Nat)], 46) :: (slH so (encS p.out) 34 ++ fvH sf (st.map flv) 41)).map (·.1)) (fun z : List Int × Fv => z.1 = bareL (n : Int) begun st ∧ z.1.length = n ∧ fvOk z.2 (z.1.map flv)) (fun z => .tuple #[]) (fun z => (bC, slV so p.out.length :: .float .f64 (F p.x) :: .float .f64 (F p.y) :: .bool p.o :: .float .f64 (F p.fx) :: .float .f64 (F p.fy) :: fvV z.2 z.1.length :: [lo, gl, .int .i64 (stems : Nat), .bool masked, .bool true, .bool ended, .int .i64 (deep : Nat), .int .i64 (ops : Nat)], 46) :: (slH so (encS p.out) 34 ++ fvH z.2 (z.1.map flv) 41)) PO) := by
 have hP : Pq PO (bodyPost Tryz.prog Tryz.f23 (OutP w (((bC, slV so p.out.length :: .float .f64 (F p.x) :: .float .f64 (F p.y) :: .bool p.o :: .float .f64 (F p.fx) :: .float .f64 (F p.fy) :: fvV sf st.length :: [lo, gl, .int .i64 (stems : Nat), .bool masked, .bool begun, .bool ended, .int .i64 (deep : Nat), .int .i64 (ops : Nat)], 46) :: (slH so (encS p.out) 34 ++ fvH sf (st.map flv) 41)).map (·.1)) (fun z : List Int × Fv => z.1 = bareL (n : Int) begun st ∧ z.1.length = n ∧ fvOk z.2 (z.1.map flv)) (fun z => .tuple #[]) (fun z => (bC, slV so p.out.length :: .float .f64 (F p.x) :: .float .f64 (F p.y) :: .bool p.o :: .float .f64 (F p.fx) :: .float .f64 (F p.fy) :: fvV z.2 z.1.length :: [lo, gl, .int .i64 (stems : Nat), .bool masked, .bool true, .bool ended, .int .i64 (deep : Nat), .int .i64 (ops : Nat)], 46) :: (slH so (encS p.out) 34 ++ fvH z.2 (z.1.map flv) 41)) PO)) 70 [] w (((bC, slV so p.out.length :: .float .f64 (F p.x) :: .float .f64 (F p.y) :: .bool p.o :: .float .f64 (F p.fx) :: .float .f64 (F p.fy) :: fvV sf st.length :: [lo, gl, .int .i64 (stems : Nat), .bool masked, .bool begun, .bool ended, .int .i64 (deep : Nat), .int .i64 (ops : Nat)], 46) :: (slH so (encS p.out) 34 ++ fvH sf (st.map flv) 41)).map (·.1)) := bodyP_out
 have hnil := fvOk.nil hfv
 rw [List.length_map] at hnil
 refine enter (n := 70) Tryz.func23 rfl rfl rfl hw ?_
 refine c_seq ?_
 refine cR ?_
 refine lM rfl ?_
 refine lN rfl ?_
 refine lV (y_fieldAddr fo_46_6 rfl) ?_
 refine lV (y_load1 ld_4 rfl m0 rfl) ?_
 refine lV (y_not rfl) ?_
 refine nQ ?_
 refine c_cut (ι := List Int × Fv) (φ := fun z => z.1 = bareL (n : Int) begun st ∧ fvOk z.2 (z.1.map flv)) (L' := fun _ => [(0, .pointer (some ⟨bC, 0, none⟩)), (1, .int .i64 (n : Int))]) (H' := fun z => (bC, slV so p.out.length :: .float .f64 (F p.x) :: .float .f64 (F p.y) :: .bool p.o :: .float .f64 (F p.fx) :: .float .f64 (F p.fy) :: fvV z.2 z.1.length :: [lo, gl, .int .i64 (stems : Nat), .bool masked, .bool true, .bool ended, .int .i64 (deep : Nat), .int .i64 (ops : Nat)], 46) :: (slH so (encS p.out) 34 ++ fvH z.2 (z.1.map flv) 41)) ?_ ?_
 ·refine c_cond rfl (fun hc8 => ?_) (fun hc8 => ?_)
  ·have hbg : begun = false := by simpa using hc8
   subst hbg
   refine cR ?_
   refine lM rfl ?_
   refine lN rfl ?_
   refine lV (y_fieldAddr fo_46_6 rfl) ?_
   refine l_does rfl rfl (g_store1 (cs' := _ :: _ :: _ :: _ :: _ :: _ :: _ :: _ :: _ :: _ :: _ :: _) sz_4 rfl rfl (by first | rfl | exact fvV_cells _ _) rfl (by first | rfl | exact fvV_one _ _) rfl .here) ?_
   intro _ _
   refine nR ?_
   refine lM rfl ?_
   refine lV (y_bin rfl rfl rfl (boolT (by omega))) ?_
   refine lM rfl ?_
   refine l_want rfl rfl ?_
   refine lM rfl ?_
   refine l_want rfl rfl ?_
   refine lN rfl ?_
   refine l_want rfl rfl ?_
   refine lV (y_fieldAddr fo_46_1 rfl) ?_
   refine l_want rfl rfl ?_
   refine lV (y_load1 ld_44 rfl m0 rfl) ?_
   refine l_want rfl rfl ?_
   refine lV (y_lenFv sl_44 rfl hnil) ?_
   refine l_want rfl rfl ?_
   refine lM rfl ?_
   refine l_want rfl rfl ?_
   refine lV (y_bin rfl rfl rfl (fitN (m := n + 1) (by omega) (by omega))) ?_
   refine l_want rfl rfl ?_
   refine lB rfl rfl rfl rfl ?_
   refine lV (y_pick rfl rfl rfl) ?_
   refine lM rfl ?_
   refine l_split (t := 24) rfl rfl (fun hs24 => ?_) (fun hs24 => ?_)
   ·have hl : st.length = n + 1 := by simp only [beq_iff_eq] at hs24; omega
    obtain ⟨q0, qr, rfl, hl1⟩ := consN (l := st) (n := st.length - 1) (by omega)
    have hbl : qr = bareL n false (q0 :: qr) := by unfold bareL; simp only [cond_false]; rw [if_pos (.inl ⟨by omega, by omega⟩)]; rfl
    refine l_not rfl rfl rfl rfl ?_
    refine l_not rfl rfl rfl rfl ?_
    refine l_not rfl rfl rfl rfl ?_
    refine l_notU rfl rfl rfl ?_
    refine l_notU rfl rfl rfl ?_
    refine l_notU rfl rfl rfl ?_
    refine l_notU rfl rfl rfl ?_
    refine l_notU rfl rfl rfl ?_
    refine l_notU rfl rfl rfl ?_
    refine l_notU rfl rfl rfl ?_
    refine l_not rfl rfl rfl rfl ?_
    refine lV (y_pick rfl rfl rfl) ?_
    refine nQ ?_
    refine c_true rfl rfl ?_
    refine c_perm (heap_eq (fvTl_H (u := flv q0) (xs := qr.map flv) hfv 41)) ?_
    refine c_region ?_
    refine lM rfl ?_
    refine lM rfl ?_
    refine lN rfl ?_
    refine lV (y_fieldAddr fo_46_1 rfl) ?_
    refine lV (y_load1 ld_44 rfl m0 rfl) ?_
    refine lV (y_fvTl (xs := qr.map flv) es_44 hfv (by rw [List.length_map]; rfl) rfl (List.length_map ..)) ?_
    refine lN rfl ?_
    refine lV (y_fieldAddr fo_46_1 rfl) ?_
    refine l_does rfl rfl (g_store1 (cs' := _ :: _ :: _ :: _ :: _ :: _ :: _ :: _) sz_44 rfl rfl (by first | rfl | exact fvV_cells _ _) rfl (by first | rfl | exact fvV_one _ _) rfl .here) ?_
    intro _ _
    refine l_nil ?_
    exact q_cut (qr, fvTl sf (flv q0)) ⟨hbl, fvTl_ok hfv⟩ ⟨rfl, rfl, trivial⟩ (.cons .here .refl)
   ·have hl : ¬ st.length = n + 1 := by simp only [beq_eq_false_iff_ne] at hs24; omega
    have hbl : st = bareL n false st := by unfold bareL; simp only [cond_false]; rw [if_neg (fun h => h.elim (fun h => hl (by omega)) (fun h => by omega))]
    refine l_want rfl rfl ?_
    refine lM rfl ?_
    refine l_want rfl rfl ?_
    refine lV (y_bin rfl rfl rfl (boolF (by omega))) ?_
    refine l_want rfl rfl ?_
    refine lM rfl ?_
    refine l_not rfl rfl rfl rfl ?_
    refine l_not rfl rfl rfl rfl ?_
    refine l_not rfl rfl rfl rfl ?_
    refine l_not rfl rfl rfl rfl ?_
    refine l_not rfl rfl rfl rfl ?_
    refine l_not rfl rfl rfl rfl ?_
    refine l_not rfl rfl rfl rfl ?_
    refine l_want rfl rfl ?_
    refine lV (y_pick rfl rfl rfl) ?_
    refine lV (y_pick rfl rfl rfl) ?_
    refine nQ ?_
    refine c_false rfl rfl ?_
    refine c_skip ?_
    exact q_cut (st, sf) ⟨hbl, hfv⟩ ⟨rfl, rfl, trivial⟩ (.cons .here .refl)
  ·have hbg : begun = true := by simpa using hc8
   subst hbg
   refine c_skip ?_
   exact q_cut (st, sf) ⟨rfl, hfv⟩ ⟨rfl, rfl, trivial⟩ (.cons .here .refl)
 intro ⟨st2, sf2⟩ ⟨hst, hfv2⟩
 simp only at hst hfv2 ⊢
 have hnil2 := fvOk.nil hfv2
 rw [List.length_map] at hnil2
 refine qR ?_
 refine lM rfl ?_
 refine lV (y_bin rfl rfl rfl (boolT (by omega))) ?_
 refine lM rfl ?_
 refine l_want rfl rfl ?_
 refine lM rfl ?_
 refine l_want rfl rfl ?_
 refine lN rfl ?_
 refine l_want rfl rfl ?_
 refine lV (y_fieldAddr fo_46_1 rfl) ?_
 refine l_want rfl rfl ?_
 refine lV (y_load1 ld_44 rfl m0 rfl) ?_
 refine l_want rfl rfl ?_
 refine lV (y_lenFv sl_44 rfl hnil2) ?_
 refine l_want rfl rfl ?_
 refine lM rfl ?_
 refine l_want rfl rfl ?_
 refine lB rfl rfl rfl rfl ?_
 refine lV (y_pick rfl rfl rfl) ?_
 refine lM rfl ?_
 refine l_split (t := 56) rfl rfl (fun hs56 => ?_) (fun hs56 => ?_)
 ·refine l_not rfl rfl rfl rfl ?_
  refine l_not rfl rfl rfl rfl ?_
  refine l_not rfl rfl rfl rfl ?_
  refine l_notU rfl rfl rfl ?_
  refine l_notU rfl rfl rfl ?_
  refine l_notU rfl rfl rfl ?_
  refine l_notU rfl rfl rfl ?_
  refine l_notU rfl rfl rfl ?_
  refine l_notU rfl rfl rfl ?_
  refine l_notU rfl rfl rfl ?_
  refine l_not rfl rfl rfl rfl ?_
  refine lV (y_pick rfl rfl rfl) ?_
  refine nQ ?_
  refine c_true rfl rfl ?_
  refine c_region ?_
  refine l_callP hP ok_19 rfl rfl (out_newP (fun w1 hw1 => f19_any w1)) ?_
  intro _ hF
  exact absurd hF (by simp)
 ·have hl2 : st2.length = n := by simp only [bne_eq_false_iff_eq] at hs56; omega
  refine l_want rfl rfl ?_
  refine lM rfl ?_
  refine l_want rfl rfl ?_
  refine lV (y_bin rfl rfl rfl (boolF (by omega))) ?_
  refine l_want rfl rfl ?_
  refine lM rfl ?_
  refine l_not rfl rfl rfl rfl ?_
  refine l_not rfl rfl rfl rfl ?_
  refine l_not rfl rfl rfl rfl ?_
  refine l_not rfl rfl rfl rfl ?_
  refine l_not rfl rfl rfl rfl ?_
  refine l_not rfl rfl rfl rfl ?_
  refine l_not rfl rfl rfl rfl ?_
  refine l_want rfl rfl ?_
  refine lV (y_pick rfl rfl rfl) ?_
  refine lV (y_pick rfl rfl rfl) ?_
  refine nQ ?_
  refine c_false rfl rfl ?_
  refine c_skip ?_
  exact body_ret (rs := []) rfl (vs := []) trivial (out_endP (st2, sf2) ⟨hst, hl2, hfv2⟩ rfl .refl) _ (.inl rfl)
set_option maxHeartbeats 8000000 in
theorem f23_m (w : World) (bC : Nat) (p : PSt) (so : Sv) (sf : Fv) (st : List Int) (lo gl : Value) (stems : Nat) (masked begun ended : Bool) (deep ops : Nat) (hlen : st.length ≤ 48) (hfv : fvOk sf (st.map flv)) (hw : Hp w (((bC, slV so p.out.length :: .float .f64 (F p.x) :: .float .f64 (F p.y) :: .bool p.o :: .float .f64 (F p.fx) :: .float .f64 (F p.fy) :: fvV sf st.length :: [lo, gl, .int .i64 (stems : Nat), .bool masked, .bool begun, .bool ended, .int .i64 (deep : Nat), .int .i64 (ops : Nat)], 46) :: (slH so (encS p.out) 34 ++ fvH sf (st.map flv) 41)).map (·.1)) ((bC, slV so p.out.length :: .float .f64 (F p.x) :: .float .f64 (F p.y) :: .bool p.o :: .float .f64 (F p.fx) :: .float .f64 (F p.fy) :: fvV sf st.length :: [lo, gl, .int .i64 (stems : Nat), .bool masked, .bool begun, .bool ended, .int .i64 (deep : Nat), .int .i64 (ops : Nat)], 46) :: (slH so (encS p.out) 34 ++ fvH sf (st.map flv) 41)) w) : Calls Tryz.prog 23 [.pointer (some ⟨bC, 0, none⟩), .int .i64 (-1)].toArray w (OutP w (((bC, slV so p.out.length :: .float .f64 (F p.x) :: .float .f64 (F p.y) :: .bool p.o :: .float .f64 (F p.fx) :: .float .f64 (F p.fy) :: fvV sf st.length :: [lo, gl, .int .i64 (stems : Nat), .bool masked, .bool begun, .bool ended, .int .i64 (deep : Nat), .int .i64 (ops : Nat)], 46) :: (slH so (encS p.out) 34 ++ fvH sf (st.map flv) 41)).map (·.1)) (fun z : List Int × Fv => z.1 = bareL (-1) begun st ∧ z.1.length % 2 = 0 ∧ fvOk z.2 (z.1.map flv)) (fun z => .tuple #[]) (fun z => (bC, slV so p.out.length :: .float .f64 (F p.x) :: .float .f64 (F p.y) :: .bool p.o :: .float .f64 (F p.fx) :: .float .f64 (F p.fy) :: fvV z.2 z.1.length :: [lo, gl, .int .i64 (stems : Nat), .bool masked, .bool true, .bool ended, .int .i64 (deep : Nat), .int .i64 (ops : Nat)], 46) :: (slH so (encS p.out) 34 ++ fvH z.2 (z.1.map flv) 41)) PO) := by
 have hP : Pq PO (bodyPost Tryz.prog Tryz.f23 (OutP w (((bC, slV so p.out.length :: .float .f64 (F p.x) :: .float .f64 (F p.y) :: .bool p.o :: .float .f64 (F p.fx) :: .float .f64 (F p.fy) :: fvV sf st.length :: [lo, gl, .int .i64 (stems : Nat), .bool masked, .bool begun, .bool ended, .int .i64 (deep : Nat), .int .i64 (ops : Nat)], 46) :: (slH so (encS p.out) 34 ++ fvH sf (st.map flv) 41)).map (·.1)) (fun z : List Int × Fv => z.1 = bareL (-1) begun st ∧ z.1.length % 2 = 0 ∧ fvOk z.2 (z.1.map flv)) (fun z => .tuple #[]) (fun z => (bC, slV so p.out.length :: .float .f64 (F p.x) :: .float .f64 (F p.y) :: .bool p.o :: .float .f64 (F p.fx) :: .float .f64 (F p.fy) :: fvV z.2 z.1.length :: [lo, gl, .int .i64 (stems : Nat), .bool masked, .bool true, .bool ended, .int .i64 (deep : Nat), .int .i64 (ops : Nat)], 46) :: (slH so (encS p.out) 34 ++ fvH z.2 (z.1.map flv) 41)) PO)) 70 [] w (((bC, slV so p.out.length :: .float .f64 (F p.x) :: .float .f64 (F p.y) :: .bool p.o :: .float .f64 (F p.fx) :: .float .f64 (F p.fy) :: fvV sf st.length :: [lo, gl, .int .i64 (stems : Nat), .bool masked, .bool begun, .bool ended, .int .i64 (deep : Nat), .int .i64 (ops : Nat)], 46) :: (slH so (encS p.out) 34 ++ fvH sf (st.map flv) 41)).map (·.1)) := bodyP_out
 have hnil := fvOk.nil hfv
 rw [List.length_map] at hnil
 refine enter (n := 70) Tryz.func23 rfl rfl rfl hw ?_
 refine c_seq ?_
 refine cR ?_
 refine lM rfl ?_
 refine lN rfl ?_
 refine lV (y_fieldAddr fo_46_6 rfl) ?_
 refine lV (y_load1 ld_4 rfl m0 rfl) ?_
 refine lV (y_not rfl) ?_
 refine nQ ?_
 refine c_cut (ι := List Int × Fv) (φ := fun z => z.1 = bareL (-1) begun st ∧ fvOk z.2 (z.1.map flv)) (L' := fun _ => [(0, .pointer (some ⟨bC, 0, none⟩)), (1, .int .i64 (-1))]) (H' := fun z => (bC, slV so p.out.length :: .float .f64 (F p.x) :: .float .f64 (F p.y) :: .bool p.o :: .float .f64 (F p.fx) :: .float .f64 (F p.fy) :: fvV z.2 z.1.length :: [lo, gl, .int .i64 (stems : Nat), .bool masked, .bool true, .bool ended, .int .i64 (deep : Nat), .int .i64 (ops : Nat)], 46) :: (slH so (encS p.out) 34 ++ fvH z.2 (z.1.map flv) 41)) ?_ ?_
 ·refine c_cond rfl (fun hc8 => ?_) (fun hc8 => ?_)
  ·have hbg : begun = false := by simpa using hc8
   subst hbg
   refine cR ?_
   refine lM rfl ?_
   refine lN rfl ?_
   refine lV (y_fieldAddr fo_46_6 rfl) ?_
   refine l_does rfl rfl (g_store1 (cs' := _ :: _ :: _ :: _ :: _ :: _ :: _ :: _ :: _ :: _ :: _ :: _) sz_4 rfl rfl (by first | rfl | exact fvV_cells _ _) rfl (by first | rfl | exact fvV_one _ _) rfl .here) ?_
   intro _ _
   refine nR ?_
   refine lM rfl ?_
   refine lV (y_bin rfl rfl rfl (boolF (by omega))) ?_
   refine lM rfl ?_
   refine l_not rfl rfl rfl rfl ?_
   refine l_not rfl rfl rfl rfl ?_
   refine l_not rfl rfl rfl rfl ?_
   refine l_not rfl rfl rfl rfl ?_
   refine l_not rfl rfl rfl rfl ?_
   refine l_not rfl rfl rfl rfl ?_
   refine l_not rfl rfl rfl rfl ?_
   refine l_not rfl rfl rfl rfl ?_
   refine lV (y_pick rfl rfl rfl) ?_
   refine lM rfl ?_
   refine l_want rfl rfl ?_
   refine lM rfl ?_
   refine l_want rfl rfl ?_
   refine lV (y_bin rfl rfl rfl (boolT (by omega))) ?_
   refine l_want rfl rfl ?_
   refine lM rfl ?_
   refine l_want rfl rfl ?_
   refine lM rfl ?_
   refine l_want rfl rfl ?_
   refine lN rfl ?_
   refine l_want rfl rfl ?_
   refine lV (y_fieldAddr fo_46_1 rfl) ?_
   refine l_want rfl rfl ?_
   refine lV (y_load1 ld_44 rfl m0 rfl) ?_
   refine l_want rfl rfl ?_
   refine lV (y_lenFv sl_44 rfl hnil) ?_
   refine l_want rfl rfl ?_
   refine lV (y_rem rfl rfl (by decide) (remV 2 rfl)) ?_
   refine l_want rfl rfl ?_
   refine lB rfl rfl rfl rfl ?_
   refine l_want rfl rfl ?_
   refine lV (y_pick rfl rfl rfl) ?_
   refine lV (y_pick rfl rfl rfl) ?_
   refine nQ ?_
   refine c_cond rfl (fun hc36 => ?_) (fun hc36 => ?_)
   ·have hl : st.length % 2 = 1 := by simp only [beq_iff_eq] at hc36; omega
    obtain ⟨q0, qr, rfl, hl1⟩ := consN (l := st) (n := st.length - 1) (by omega)
    have hbl : qr = bareL (-1) false (q0 :: qr) := by unfold bareL; simp only [cond_false]; rw [if_pos (.inr ⟨by decide, hl⟩)]; rfl
    refine c_perm (heap_eq (fvTl_H (u := flv q0) (xs := qr.map flv) hfv 41)) ?_
    refine c_region ?_
    refine lM rfl ?_
    refine lM rfl ?_
    refine lN rfl ?_
    refine lV (y_fieldAddr fo_46_1 rfl) ?_
    refine lV (y_load1 ld_44 rfl m0 rfl) ?_
    refine lV (y_fvTl (xs := qr.map flv) es_44 hfv (by rw [List.length_map]; rfl) rfl (List.length_map ..)) ?_
    refine lN rfl ?_
    refine lV (y_fieldAddr fo_46_1 rfl) ?_
    refine l_does rfl rfl (g_store1 (cs' := _ :: _ :: _ :: _ :: _ :: _ :: _ :: _) sz_44 rfl rfl (by first | rfl | exact fvV_cells _ _) rfl (by first | rfl | exact fvV_one _ _) rfl .here) ?_
    intro _ _
    refine l_nil ?_
    exact q_cut (qr, fvTl sf (flv q0)) ⟨hbl, fvTl_ok hfv⟩ ⟨rfl, rfl, trivial⟩ (.cons .here .refl)
   ·have hl : ¬ st.length % 2 = 1 := by simp only [beq_eq_false_iff_ne] at hc36; omega
    have hbl : st = bareL (-1) false st := by unfold bareL; simp only [cond_false]; rw [if_neg (fun h => h.elim (fun h => absurd h.1 (by decide)) (fun h => hl h.2))]
    refine c_skip ?_
    exact q_cut (st, sf) ⟨hbl, hfv⟩ ⟨rfl, rfl, trivial⟩ (.cons .here .refl)
  ·have hbg : begun = true := by simpa using hc8
   subst hbg
   refine c_skip ?_
   exact q_cut (st, sf) ⟨rfl, hfv⟩ ⟨rfl, rfl, trivial⟩ (.cons .here .refl)
 intro ⟨st2, sf2⟩ ⟨hst, hfv2⟩
 simp only at hst hfv2 ⊢
 have hnil2 := fvOk.nil hfv2
 rw [List.length_map] at hnil2
 refine qR ?_
 refine lM rfl ?_
 refine lV (y_bin rfl rfl rfl (boolF (by omega))) ?_
 refine lM rfl ?_
 refine l_not rfl rfl rfl rfl ?_
 refine l_not rfl rfl rfl rfl ?_
 refine l_not rfl rfl rfl rfl ?_
 refine l_not rfl rfl rfl rfl ?_
 refine l_not rfl rfl rfl rfl ?_
 refine l_not rfl rfl rfl rfl ?_
 refine l_not rfl rfl rfl rfl ?_
 refine lV (y_pick rfl rfl rfl) ?_
 refine lM rfl ?_
 refine l_want rfl rfl ?_
 refine lM rfl ?_
 refine l_want rfl rfl ?_
 refine lV (y_bin rfl rfl rfl (boolT (by omega))) ?_
 refine l_want rfl rfl ?_
 refine lM rfl ?_
 refine l_want rfl rfl ?_
 refine lM rfl ?_
 refine l_want rfl rfl ?_
 refine lN rfl ?_
 refine l_want rfl rfl ?_
 refine lV (y_fieldAddr fo_46_1 rfl) ?_
 refine l_want rfl rfl ?_
 refine lV (y_load1 ld_44 rfl m0 rfl) ?_
 refine l_want rfl rfl ?_
 refine lV (y_lenFv sl_44 rfl hnil2) ?_
 refine l_want rfl rfl ?_
 refine lV (y_rem rfl rfl (by decide) (remV 2 rfl)) ?_
 refine l_want rfl rfl ?_
 refine lB rfl rfl rfl rfl ?_
 refine l_want rfl rfl ?_
 refine lV (y_pick rfl rfl rfl) ?_
 refine lV (y_pick rfl rfl rfl) ?_
 refine nQ ?_
 refine c_cond rfl (fun hc68 => ?_) (fun hc68 => ?_)
 ·refine c_region ?_
  refine l_callP hP ok_19 rfl rfl (out_newP (fun w1 hw1 => f19_any w1)) ?_
  intro _ hF
  exact absurd hF (by simp)
 ·have hl2 : st2.length % 2 = 0 := by simp only [bne_eq_false_iff_eq] at hc68; omega
  refine c_skip ?_
  exact body_ret (rs := []) rfl (vs := []) trivial (out_endP (st2, sf2) ⟨hst, hl2, hfv2⟩ rfl .refl) _ (.inl rfl)
/-- An own slice cut to nothing. -/
def fvNil (fv : Fv) (xs : List Value) : Fv := match fv with
  | none => none
  | some (g, pre, sp, cap) => some (g, pre, xs ++ sp, cap)
theorem fvNil_ok {fv : Fv} {xs : List Value} (h : fvOk fv xs) : fvOk (fvNil fv xs) [] := by
  cases fv with
  | none => rfl
  | some q => obtain ⟨g, pre, sp, cap⟩ := q; exact fvOk.cut h
theorem bareL_len (n : Int) (b : Bool) (st : List Int) : (bareL n b st).length ≤ st.length := by
  unfold bareL
  cases b
  · simp only [cond_false]
    split
    · rw [List.length_tail]; omega
    · exact Nat.le_refl _
  · exact Nat.le_refl _
set_option maxHeartbeats 8000000 in
theorem f16_any (w : World) (bC : Nat) (p : PSt) (so : Sv) (sf : Fv) (st : List Int) (lo gl : Value) (stems : Nat) (masked begun ended : Bool) (deep ops : Nat) (hlen : st.length ≤ 48) (hst0 : stems ≤ 1000000) (hfv : fvOk sf (st.map flv)) (hw : Hp w (((bC, slV so p.out.length :: .float .f64 (F p.x) :: .float .f64 (F p.y) :: .bool p.o :: .float .f64 (F p.fx) :: .float .f64 (F p.fy) :: fvV sf st.length :: [lo, gl, .int .i64 (stems : Nat), .bool masked, .bool begun, .bool ended, .int .i64 (deep : Nat), .int .i64 (ops : Nat)], 46) :: (slH so (encS p.out) 34 ++ fvH sf (st.map flv) 41)).map (·.1)) ((bC, slV so p.out.length :: .float .f64 (F p.x) :: .float .f64 (F p.y) :: .bool p.o :: .float .f64 (F p.fx) :: .float .f64 (F p.fy) :: fvV sf st.length :: [lo, gl, .int .i64 (stems : Nat), .bool masked, .bool begun, .bool ended, .int .i64 (deep : Nat), .int .i64 (ops : Nat)], 46) :: (slH so (encS p.out) 34 ++ fvH sf (st.map flv) 41)) w) : Calls Tryz.prog 16 [.pointer (some ⟨bC, 0, none⟩)].toArray w (OutP w (((bC, slV so p.out.length :: .float .f64 (F p.x) :: .float .f64 (F p.y) :: .bool p.o :: .float .f64 (F p.fx) :: .float .f64 (F p.fy) :: fvV sf st.length :: [lo, gl, .int .i64 (stems : Nat), .bool masked, .bool begun, .bool ended, .int .i64 (deep : Nat), .int .i64 (ops : Nat)], 46) :: (slH so (encS p.out) 34 ++ fvH sf (st.map flv) 41)).map (·.1)) (fun z : Nat × Fv => z.1 = (bareL (-1) begun st).length ∧ z.1 % 2 = 0 ∧ fvOk z.2 []) (fun z => .tuple #[]) (fun z => (bC, slV so p.out.length :: .float .f64 (F p.x) :: .float .f64 (F p.y) :: .bool p.o :: .float .f64 (F p.fx) :: .float .f64 (F p.fy) :: fvV z.2 ([] : List Int).length :: [lo, gl, .int .i64 ((stems + z.1 / 2) : Nat), .bool masked, .bool true, .bool ended, .int .i64 (deep : Nat), .int .i64 (ops : Nat)], 46) :: (slH so (encS p.out) 34 ++ fvH z.2 (([] : List Int).map flv) 41)) PO) := by
 have hP : Pq PO (bodyPost Tryz.prog Tryz.f16 (OutP w (((bC, slV so p.out.length :: .float .f64 (F p.x) :: .float .f64 (F p.y) :: .bool p.o :: .float .f64 (F p.fx) :: .float .f64 (F p.fy) :: fvV sf st.length :: [lo, gl, .int .i64 (stems : Nat), .bool masked, .bool begun, .bool ended, .int .i64 (deep : Nat), .int .i64 (ops : Nat)], 46) :: (slH so (encS p.out) 34 ++ fvH sf (st.map flv) 41)).map (·.1)) (fun z : Nat × Fv => z.1 = (bareL (-1) begun st).length ∧ z.1 % 2 = 0 ∧ fvOk z.2 []) (fun z => .tuple #[]) (fun z => (bC, slV so p.out.length :: .float .f64 (F p.x) :: .float .f64 (F p.y) :: .bool p.o :: .float .f64 (F p.fx) :: .float .f64 (F p.fy) :: fvV z.2 ([] : List Int).length :: [lo, gl, .int .i64 ((stems + z.1 / 2) : Nat), .bool masked, .bool true, .bool ended, .int .i64 (deep : Nat), .int .i64 (ops : Nat)], 46) :: (slH so (encS p.out) 34 ++ fvH z.2 (([] : List Int).map flv) 41)) PO)) 25 [] w (((bC, slV so p.out.length :: .float .f64 (F p.x) :: .float .f64 (F p.y) :: .bool p.o :: .float .f64 (F p.fx) :: .float .f64 (F p.fy) :: fvV sf st.length :: [lo, gl, .int .i64 (stems : Nat), .bool masked, .bool begun, .bool ended, .int .i64 (deep : Nat), .int .i64 (ops : Nat)], 46) :: (slH so (encS p.out) 34 ++ fvH sf (st.map flv) 41)).map (·.1)) := bodyP_out
 refine enter (n := 25) Tryz.func16 rfl rfl rfl hw ?_
 refine cR ?_
 refine lM rfl ?_
 refine l_callP hP ok_23 rfl rfl (out_allP (H1 := (bC, slV so p.out.length :: .float .f64 (F p.x) :: .float .f64 (F p.y) :: .bool p.o :: .float .f64 (F p.fx) :: .float .f64 (F p.fy) :: fvV sf st.length :: [lo, gl, .int .i64 (stems : Nat), .bool masked, .bool begun, .bool ended, .int .i64 (deep : Nat), .int .i64 (ops : Nat)], 46) :: (slH so (encS p.out) 34 ++ fvH sf (st.map flv) 41)) (fun w1 ha hb => f23_m w1 bC p so sf st lo gl stems masked begun ended deep ops hlen hfv hb)) ?_
 intro ⟨st2, sf2⟩ ⟨hst, hl2, hfv2⟩
 simp only at hst hl2 hfv2 ⊢
 have hnil2 := fvOk.nil hfv2
 rw [List.length_map] at hnil2
 have hlen2 : st2.length ≤ st.length := hst ▸ bareL_len _ _ _
 refine nQ ?_
 refine c_seq ?_
 refine c_draw [] mixed rfl ?_
 refine dM 0 rfl rfl ?_
 refine dN 1 rfl rfl ?_
 refine dV 2 rfl (y_fieldAddr fo_46_4 rfl) ?_
 refine dM 4 rfl rfl ?_
 refine dN 5 rfl rfl ?_
 refine dV 6 rfl (y_fieldAddr fo_46_1 rfl) ?_
 refine d_ready (i := 3) (rs := [7]) (by kernel_rfl) .nil (all_cons ?_ (all_one ?_))
 ·refine o_gives rfl rfl rfl (gy (y_load1 ld_3 rfl m0 rfl)) rfl ?_
  intro _ _
  refine d_ready (i := 7) (rs := []) (by kernel_rfl) .nil (all_one ?_)
  refine o_gives rfl rfl rfl (gy (y_load1 ld_44 rfl m0 rfl)) rfl ?_
  intro _ _
  refine dV 8 rfl (y_lenFv sl_44 rfl hnil2) ?_
  refine dV 9 rfl (y_quo rfl rfl (by decide) (quoV 2 rfl (by omega))) ?_
  refine dV 10 rfl (y_bin rfl rfl rfl (fitN (m := stems + st2.length / 2) (by omega) (by omega))) ?_
  refine dN 11 rfl rfl ?_
  refine dV 12 rfl (y_fieldAddr fo_46_4 rfl) ?_
  refine d_ready (i := 13) (rs := []) (by kernel_rfl) .nil (all_one ?_)
  refine o_does rfl rfl rfl (g_store1 (cs' := _ :: _ :: _ :: _ :: _ :: _ :: _ :: _ :: _ :: _ :: _) sz_3 rfl rfl (by first | rfl | exact fvV_cells _ _) rfl (by first | rfl | exact fvV_one _ _) rfl .here) ?_
  intro _ _
  refine d_end (by kernel_rfl) .nil ?_
  refine qG ?_
  refine lM rfl ?_
  refine lM rfl ?_
  refine lN rfl ?_
  refine lV (y_fieldAddr fo_46_1 rfl) ?_
  refine lV (y_load1 ld_44 rfl m0 rfl) ?_
  refine lV (y_fvTo (fv := sf2) (xs := st2.map flv) (k := 0) es_44 hfv2 (by rw [List.length_map]; rfl) rfl (Nat.zero_le _)) ?_
  refine lN rfl ?_
  refine lV (y_fieldAddr fo_46_1 rfl) ?_
  refine l_does rfl rfl (g_store1 (cs' := _ :: _ :: _ :: _ :: _ :: _ :: _ :: _) sz_44 rfl rfl (by first | rfl | exact fvV_cells _ _) rfl (by first | rfl | exact fvV_one _ _) rfl .here) ?_
  intro _ _
  refine l_nil ?_
  exact body_ret (rs := []) rfl (vs := []) trivial (out_endP (st2.length, fvNil sf2 (st2.map flv)) ⟨by rw [← hst], hl2, fvNil_ok hfv2⟩ rfl (by cases sf2 <;> exact .refl)) _ (.inl rfl)
 ·refine o_gives rfl rfl rfl (gy (y_load1 ld_44 rfl m0 rfl)) rfl ?_
  intro _ _
  refine dV 8 rfl (y_lenFv sl_44 rfl hnil2) ?_
  refine dV 9 rfl (y_quo rfl rfl (by decide) (quoV 2 rfl (by omega))) ?_
  refine d_ready (i := 3) (rs := []) (by kernel_rfl) .nil (all_one ?_)
  refine o_gives rfl rfl rfl (gy (y_load1 ld_3 rfl m0 rfl)) rfl ?_
  intro _ _
  refine dV 10 rfl (y_bin rfl rfl rfl (fitN (m := stems + st2.length / 2) (by omega) (by omega))) ?_
  refine dN 11 rfl rfl ?_
  refine dV 12 rfl (y_fieldAddr fo_46_4 rfl) ?_
  refine d_ready (i := 13) (rs := []) (by kernel_rfl) .nil (all_one ?_)
  refine o_does rfl rfl rfl (g_store1 (cs' := _ :: _ :: _ :: _ :: _ :: _ :: _ :: _ :: _ :: _ :: _) sz_3 rfl rfl (by first | rfl | exact fvV_cells _ _) rfl (by first | rfl | exact fvV_one _ _) rfl .here) ?_
  intro _ _
  refine d_end (by kernel_rfl) .nil ?_
  refine qG ?_
  refine lM rfl ?_
  refine lM rfl ?_
  refine lN rfl ?_
  refine lV (y_fieldAddr fo_46_1 rfl) ?_
  refine lV (y_load1 ld_44 rfl m0 rfl) ?_
  refine lV (y_fvTo (fv := sf2) (xs := st2.map flv) (k := 0) es_44 hfv2 (by rw [List.length_map]; rfl) rfl (Nat.zero_le _)) ?_
  refine lN rfl ?_
  refine lV (y_fieldAddr fo_46_1 rfl) ?_
  refine l_does rfl rfl (g_store1 (cs' := _ :: _ :: _ :: _ :: _ :: _ :: _ :: _) sz_44 rfl rfl (by first | rfl | exact fvV_cells _ _) rfl (by first | rfl | exact fvV_one _ _) rfl .here) ?_
  intro _ _
  refine l_nil ?_
  exact body_ret (rs := []) rfl (vs := []) trivial (out_endP (st2.length, fvNil sf2 (st2.map flv)) ⟨by rw [← hst], hl2, fvNil_ok hfv2⟩ rfl (by cases sf2 <;> exact .refl)) _ (.inl rfl)
end Go.Proofs.YtbepljmeflndkaaGreatDoor
