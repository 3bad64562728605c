/- Part 7 of the proof about FnCharstring. -/
import Derived.Test.YtbepljmeflndkaaGreatDoorQ06
namespace Go.Proofs.YtbepljmeflndkaaGreatDoor
open Go.Eng Go.Fl
set_option maxRecDepth 100000
attribute [local irreducible] IntKind.wrap Int.tdiv Int.tmod Int.emod maxLen F G
theorem bareL_mem {n : Int} {b : Bool} {st : List Int} {q : Int} (h : q ∈ bareL n b st) : q ∈ st := by
  unfold bareL at h
  cases b
  · simp only [cond_false] at h
    split at h
    · exact List.mem_of_mem_tail h
    · exact h
  · exact h
set_option maxHeartbeats 8000000 in
theorem f17_any (w : World) (bC M v : Nat) (p : PSt) (so : Sv) (sf : Fv) (st : List Int) (lo gl : Value) (stems : Nat) (masked begun ended : Bool) (deep ops : Nat) (hlen : st.length ≤ 48) (hst0 : stems ≤ 1000000) (hq : ∀ q ∈ st, Opd q) (hB0 : p.Bd M) (hM : M + 120 * 2147483648 < 2 ^ 53) (hok : slOk so p.out.length 7 (encS p.out)) (hfv : fvOk sf (st.map flv)) (hol : p.out.length ≤ 60000) (hw : Hp w (((bC, slV so p.out.length :: .float .f64 (F p.x) :: .float .f64 (F p.y) :: .bool p.o :: .float .f64 (F p.fx) :: .float .f64 (F p.fy) :: fvV sf st.length :: [lo, gl, .int .i64 (stems : Nat), .bool masked, .bool begun, .bool ended, .int .i64 (deep : Nat), .int .i64 (ops : Nat)], 46) :: (slH so (encS p.out) 34 ++ fvH sf (st.map flv) 41)).map (·.1)) ((bC, slV so p.out.length :: .float .f64 (F p.x) :: .float .f64 (F p.y) :: .bool p.o :: .float .f64 (F p.fx) :: .float .f64 (F p.fy) :: fvV sf st.length :: [lo, gl, .int .i64 (stems : Nat), .bool masked, .bool begun, .bool ended, .int .i64 (deep : Nat), .int .i64 (ops : Nat)], 46) :: (slH so (encS p.out) 34 ++ fvH sf (st.map flv) 41)) w) : Calls Tryz.prog 17 [.pointer (some ⟨bC, 0, none⟩), .int .u8 v].toArray w (OutP w (((bC, slV so p.out.length :: .float .f64 (F p.x) :: .float .f64 (F p.y) :: .bool p.o :: .float .f64 (F p.fx) :: .float .f64 (F p.fy) :: fvV sf st.length :: [lo, gl, .int .i64 (stems : Nat), .bool masked, .bool begun, .bool ended, .int .i64 (deep : Nat), .int .i64 (ops : Nat)], 46) :: (slH so (encS p.out) 34 ++ fvH sf (st.map flv) 41)).map (·.1)) (fun z : PSt × Nat × Bool × Bool × Sv × Fv => OpR v ⟨p, st, stems, masked, begun, ended, deep, ops⟩ ⟨z.1, [], z.2.1, masked, z.2.2.1, z.2.2.2.1, deep, ops⟩ ∧ slOk z.2.2.2.2.1 z.1.out.length 7 (encS z.1.out) ∧ fvOk z.2.2.2.2.2 []) (fun z => .tuple #[]) (fun z => (bC, slV z.2.2.2.2.1 z.1.out.length :: .float .f64 (F z.1.x) :: .float .f64 (F z.1.y) :: .bool z.1.o :: .float .f64 (F z.1.fx) :: .float .f64 (F z.1.fy) :: fvV z.2.2.2.2.2 ([] : List Int).length :: [lo, gl, .int .i64 (z.2.1 : Nat), .bool masked, .bool z.2.2.1, .bool z.2.2.2.1, .int .i64 (deep : Nat), .int .i64 (ops : Nat)], 46) :: (slH z.2.2.2.2.1 (encS z.1.out) 34 ++ fvH z.2.2.2.2.2 (([] : List Int).map flv) 41)) PO) := by
 have hP : Pq PO (bodyPost Tryz.prog Tryz.f17 (OutP w (((bC, slV so p.out.length :: .float .f64 (F p.x) :: .float .f64 (F p.y) :: .bool p.o :: .float .f64 (F p.fx) :: .float .f64 (F p.fy) :: fvV sf st.length :: [lo, gl, .int .i64 (stems : Nat), .bool masked, .bool begun, .bool ended, .int .i64 (deep : Nat), .int .i64 (ops : Nat)], 46) :: (slH so (encS p.out) 34 ++ fvH sf (st.map flv) 41)).map (·.1)) (fun z : PSt × Nat × Bool × Bool × Sv × Fv => OpR v ⟨p, st, stems, masked, begun, ended, deep, ops⟩ ⟨z.1, [], z.2.1, masked, z.2.2.1, z.2.2.2.1, deep, ops⟩ ∧ slOk z.2.2.2.2.1 z.1.out.length 7 (encS z.1.out) ∧ fvOk z.2.2.2.2.2 []) (fun z => .tuple #[]) (fun z => (bC, slV z.2.2.2.2.1 z.1.out.length :: .float .f64 (F z.1.x) :: .float .f64 (F z.1.y) :: .bool z.1.o :: .float .f64 (F z.1.fx) :: .float .f64 (F z.1.fy) :: fvV z.2.2.2.2.2 ([] : List Int).length :: [lo, gl, .int .i64 (z.2.1 : Nat), .bool masked, .bool z.2.2.1, .bool z.2.2.2.1, .int .i64 (deep : Nat), .int .i64 (ops : Nat)], 46) :: (slH z.2.2.2.2.1 (encS z.1.out) 34 ++ fvH z.2.2.2.2.2 (([] : List Int).map flv) 41)) PO)) 102 [] w (((bC, slV so p.out.length :: .float .f64 (F p.x) :: .float .f64 (F p.y) :: .bool p.o :: .float .f64 (F p.fx) :: .float .f64 (F p.fy) :: fvV sf st.length :: [lo, gl, .int .i64 (stems : Nat), .bool masked, .bool begun, .bool ended, .int .i64 (deep : Nat), .int .i64 (ops : Nat)], 46) :: (slH so (encS p.out) 34 ++ fvH sf (st.map flv) 41)).map (·.1)) := bodyP_out
 have hnil := fvOk.nil hfv
 rw [List.length_map] at hnil
 refine enter (n := 102) Tryz.func17 rfl rfl rfl hw ?_
 refine c_seq ?_
 refine cR ?_
 refine lM rfl ?_
 refine nQ ?_
 refine c_block ?_
 refine c_seq ?_
 refine cR ?_
 refine lB rfl rfl rfl rfl ?_
 refine lA rfl ?_
 refine nQ ?_
 refine c_cond rfl (fun hc14 => ?_) (fun hc14 => ?_)
 ·have hv : v = 1 := by simp only [beq_iff_eq] at hc14; omega
  subst hv
  refine kQ ?_
  refine c_true rfl rfl ?_
  refine cR ?_
  refine lM rfl ?_
  refine lN rfl ?_
  refine lV (y_fieldAddr fo_46_1 rfl) ?_
  refine lV (y_load1 ld_44 rfl m0 rfl) ?_
  refine lV (y_lenFv sl_44 rfl hnil) ?_
  refine lB rfl rfl rfl rfl ?_
  refine lM rfl ?_
  refine l_split (t := 25) rfl rfl (fun hs25 => ?_) (fun hs25 => ?_)
  ·refine l_want rfl rfl ?_
   refine lM rfl ?_
   refine l_want rfl rfl ?_
   refine lN rfl ?_
   refine l_want rfl rfl ?_
   refine lV (y_fieldAddr fo_46_5 rfl) ?_
   refine l_want rfl rfl ?_
   refine lV (y_load1 ld_4 rfl m0 rfl) ?_
   refine l_want rfl rfl ?_
   refine lV (y_not rfl) ?_
   refine lV (y_pick rfl rfl rfl) ?_
   refine l_callP hP ok_12 rfl rfl (out_keepP (fun w1 => f12_any w1 _)) ?_
   intro _ hn
   have hn2 : 2 ≤ st.length := by simp only [decide_eq_true_eq] at hs25; omega
   have hn3 : masked = false := by simpa using hn
   refine nR ?_
   refine lM rfl ?_
   refine l_callP hP ok_16 rfl rfl (out_allP (H1 := (bC, slV so p.out.length :: .float .f64 (F p.x) :: .float .f64 (F p.y) :: .bool p.o :: .float .f64 (F p.fx) :: .float .f64 (F p.fy) :: fvV sf st.length :: [lo, gl, .int .i64 (stems : Nat), .bool masked, .bool begun, .bool ended, .int .i64 (deep : Nat), .int .i64 (ops : Nat)], 46) :: (slH so (encS p.out) 34 ++ fvH sf (st.map flv) 41)) (fun w1 ha hb => f16_any w1 bC p so sf st lo gl stems masked begun ended deep ops hlen hst0 hfv hb)) ?_
   intro ⟨n2, z2⟩ ⟨hn4, hn5, hfv2⟩
   simp only at hn4 hn5 hfv2 ⊢
   refine nQ ?_
   refine c_ret ?_
   refine q_block_ret ?_
   refine q_then_ret ?_
   exact body_ret (rs := []) rfl (vs := []) trivial (out_endP (p, (stems + n2 / 2), true, ended, so, z2) ⟨(hn4 ▸ .stem (by decide) hn2 hn3 (hn4 ▸ hn5)), hok, hfv2⟩ rfl .refl) _ (.inr rfl)
  ·refine l_not rfl rfl rfl rfl ?_
   refine l_not rfl rfl rfl rfl ?_
   refine l_not rfl rfl rfl rfl ?_
   refine l_not rfl rfl rfl rfl ?_
   refine l_not rfl rfl rfl rfl ?_
   refine lV (y_pick rfl rfl rfl) ?_
   refine l_callP hP ok_12 rfl rfl (out_keepP (fun w1 => f12_any w1 _)) ?_
   intro _ hn
   cases hn
 ·refine cR ?_
  refine lB rfl rfl rfl rfl ?_
  refine lA rfl ?_
  refine nQ ?_
  refine c_cond rfl (fun hc14 => ?_) (fun hc14 => ?_)
  ·have hv : v = 3 := by simp only [beq_iff_eq] at hc14; omega
   subst hv
   refine kQ ?_
   refine c_true rfl rfl ?_
   refine cR ?_
   refine lM rfl ?_
   refine lN rfl ?_
   refine lV (y_fieldAddr fo_46_1 rfl) ?_
   refine lV (y_load1 ld_44 rfl m0 rfl) ?_
   refine lV (y_lenFv sl_44 rfl hnil) ?_
   refine lB rfl rfl rfl rfl ?_
   refine lM rfl ?_
   refine l_split (t := 25) rfl rfl (fun hs25 => ?_) (fun hs25 => ?_)
   ·refine l_want rfl rfl ?_
    refine lM rfl ?_
    refine l_want rfl rfl ?_
    refine lN rfl ?_
    refine l_want rfl rfl ?_
    refine lV (y_fieldAddr fo_46_5 rfl) ?_
    refine l_want rfl rfl ?_
    refine lV (y_load1 ld_4 rfl m0 rfl) ?_
    refine l_want rfl rfl ?_
    refine lV (y_not rfl) ?_
    refine lV (y_pick rfl rfl rfl) ?_
    refine l_callP hP ok_12 rfl rfl (out_keepP (fun w1 => f12_any w1 _)) ?_
    intro _ hn
    have hn2 : 2 ≤ st.length := by simp only [decide_eq_true_eq] at hs25; omega
    have hn3 : masked = false := by simpa using hn
    refine nR ?_
    refine lM rfl ?_
    refine l_callP hP ok_16 rfl rfl (out_allP (H1 := (bC, slV so p.out.length :: .float .f64 (F p.x) :: .float .f64 (F p.y) :: .bool p.o :: .float .f64 (F p.fx) :: .float .f64 (F p.fy) :: fvV sf st.length :: [lo, gl, .int .i64 (stems : Nat), .bool masked, .bool begun, .bool ended, .int .i64 (deep : Nat), .int .i64 (ops : Nat)], 46) :: (slH so (encS p.out) 34 ++ fvH sf (st.map flv) 41)) (fun w1 ha hb => f16_any w1 bC p so sf st lo gl stems masked begun ended deep ops hlen hst0 hfv hb)) ?_
    intro ⟨n2, z2⟩ ⟨hn4, hn5, hfv2⟩
    simp only at hn4 hn5 hfv2 ⊢
    refine nQ ?_
    refine c_ret ?_
    refine q_block_ret ?_
    refine q_then_ret ?_
    exact body_ret (rs := []) rfl (vs := []) trivial (out_endP (p, (stems + n2 / 2), true, ended, so, z2) ⟨(hn4 ▸ .stem (by decide) hn2 hn3 (hn4 ▸ hn5)), hok, hfv2⟩ rfl .refl) _ (.inr rfl)
   ·refine l_not rfl rfl rfl rfl ?_
    refine l_not rfl rfl rfl rfl ?_
    refine l_not rfl rfl rfl rfl ?_
    refine l_not rfl rfl rfl rfl ?_
    refine l_not rfl rfl rfl rfl ?_
    refine lV (y_pick rfl rfl rfl) ?_
    refine l_callP hP ok_12 rfl rfl (out_keepP (fun w1 => f12_any w1 _)) ?_
    intro _ hn
    cases hn
  ·refine cR ?_
   refine lB rfl rfl rfl rfl ?_
   refine lA rfl ?_
   refine nQ ?_
   refine c_cond rfl (fun hc14 => ?_) (fun hc14 => ?_)
   ·have hv : v = 18 := by simp only [beq_iff_eq] at hc14; omega
    subst hv
    refine kQ ?_
    refine c_true rfl rfl ?_
    refine cR ?_
    refine lM rfl ?_
    refine lN rfl ?_
    refine lV (y_fieldAddr fo_46_1 rfl) ?_
    refine lV (y_load1 ld_44 rfl m0 rfl) ?_
    refine lV (y_lenFv sl_44 rfl hnil) ?_
    refine lB rfl rfl rfl rfl ?_
    refine lM rfl ?_
    refine l_split (t := 25) rfl rfl (fun hs25 => ?_) (fun hs25 => ?_)
    ·refine l_want rfl rfl ?_
     refine lM rfl ?_
     refine l_want rfl rfl ?_
     refine lN rfl ?_
     refine l_want rfl rfl ?_
     refine lV (y_fieldAddr fo_46_5 rfl) ?_
     refine l_want rfl rfl ?_
     refine lV (y_load1 ld_4 rfl m0 rfl) ?_
     refine l_want rfl rfl ?_
     refine lV (y_not rfl) ?_
     refine lV (y_pick rfl rfl rfl) ?_
     refine l_callP hP ok_12 rfl rfl (out_keepP (fun w1 => f12_any w1 _)) ?_
     intro _ hn
     have hn2 : 2 ≤ st.length := by simp only [decide_eq_true_eq] at hs25; omega
     have hn3 : masked = false := by simpa using hn
     refine nR ?_
     refine lM rfl ?_
     refine l_callP hP ok_16 rfl rfl (out_allP (H1 := (bC, slV so p.out.length :: .float .f64 (F p.x) :: .float .f64 (F p.y) :: .bool p.o :: .float .f64 (F p.fx) :: .float .f64 (F p.fy) :: fvV sf st.length :: [lo, gl, .int .i64 (stems : Nat), .bool masked, .bool begun, .bool ended, .int .i64 (deep : Nat), .int .i64 (ops : Nat)], 46) :: (slH so (encS p.out) 34 ++ fvH sf (st.map flv) 41)) (fun w1 ha hb => f16_any w1 bC p so sf st lo gl stems masked begun ended deep ops hlen hst0 hfv hb)) ?_
     intro ⟨n2, z2⟩ ⟨hn4, hn5, hfv2⟩
     simp only at hn4 hn5 hfv2 ⊢
     refine nQ ?_
     refine c_ret ?_
     refine q_block_ret ?_
     refine q_then_ret ?_
     exact body_ret (rs := []) rfl (vs := []) trivial (out_endP (p, (stems + n2 / 2), true, ended, so, z2) ⟨(hn4 ▸ .stem (by decide) hn2 hn3 (hn4 ▸ hn5)), hok, hfv2⟩ rfl .refl) _ (.inr rfl)
    ·refine l_not rfl rfl rfl rfl ?_
     refine l_not rfl rfl rfl rfl ?_
     refine l_not rfl rfl rfl rfl ?_
     refine l_not rfl rfl rfl rfl ?_
     refine l_not rfl rfl rfl rfl ?_
     refine lV (y_pick rfl rfl rfl) ?_
     refine l_callP hP ok_12 rfl rfl (out_keepP (fun w1 => f12_any w1 _)) ?_
     intro _ hn
     cases hn
   ·refine c_region ?_
    refine lB rfl rfl rfl rfl ?_
    refine lA rfl ?_
    refine nQ ?_
    refine c_cond rfl (fun hc14 => ?_) (fun hc14 => ?_)
    ·have hv : v = 23 := by simp only [beq_iff_eq] at hc14; omega
     subst hv
     refine cR ?_
     refine lM rfl ?_
     refine lN rfl ?_
     refine lV (y_fieldAddr fo_46_1 rfl) ?_
     refine lV (y_load1 ld_44 rfl m0 rfl) ?_
     refine lV (y_lenFv sl_44 rfl hnil) ?_
     refine lB rfl rfl rfl rfl ?_
     refine lM rfl ?_
     refine l_split (t := 25) rfl rfl (fun hs25 => ?_) (fun hs25 => ?_)
     ·refine l_want rfl rfl ?_
      refine lM rfl ?_
      refine l_want rfl rfl ?_
      refine lN rfl ?_
      refine l_want rfl rfl ?_
      refine lV (y_fieldAddr fo_46_5 rfl) ?_
      refine l_want rfl rfl ?_
      refine lV (y_load1 ld_4 rfl m0 rfl) ?_
      refine l_want rfl rfl ?_
      refine lV (y_not rfl) ?_
      refine lV (y_pick rfl rfl rfl) ?_
      refine l_callP hP ok_12 rfl rfl (out_keepP (fun w1 => f12_any w1 _)) ?_
      intro _ hn
      have hn2 : 2 ≤ st.length := by simp only [decide_eq_true_eq] at hs25; omega
      have hn3 : masked = false := by simpa using hn
      refine nR ?_
      refine lM rfl ?_
      refine l_callP hP ok_16 rfl rfl (out_allP (H1 := (bC, slV so p.out.length :: .float .f64 (F p.x) :: .float .f64 (F p.y) :: .bool p.o :: .float .f64 (F p.fx) :: .float .f64 (F p.fy) :: fvV sf st.length :: [lo, gl, .int .i64 (stems : Nat), .bool masked, .bool begun, .bool ended, .int .i64 (deep : Nat), .int .i64 (ops : Nat)], 46) :: (slH so (encS p.out) 34 ++ fvH sf (st.map flv) 41)) (fun w1 ha hb => f16_any w1 bC p so sf st lo gl stems masked begun ended deep ops hlen hst0 hfv hb)) ?_
      intro ⟨n2, z2⟩ ⟨hn4, hn5, hfv2⟩
      simp only at hn4 hn5 hfv2 ⊢
      refine nQ ?_
      refine c_ret ?_
      refine q_block_ret ?_
      refine q_then_ret ?_
      exact body_ret (rs := []) rfl (vs := []) trivial (out_endP (p, (stems + n2 / 2), true, ended, so, z2) ⟨(hn4 ▸ .stem (by decide) hn2 hn3 (hn4 ▸ hn5)), hok, hfv2⟩ rfl .refl) _ (.inr rfl)
     ·refine l_not rfl rfl rfl rfl ?_
      refine l_not rfl rfl rfl rfl ?_
      refine l_not rfl rfl rfl rfl ?_
      refine l_not rfl rfl rfl rfl ?_
      refine l_not rfl rfl rfl rfl ?_
      refine lV (y_pick rfl rfl rfl) ?_
      refine l_callP hP ok_12 rfl rfl (out_keepP (fun w1 => f12_any w1 _)) ?_
      intro _ hn
      cases hn
    ·refine cR ?_
     refine lB rfl rfl rfl rfl ?_
     refine lA rfl ?_
     refine nQ ?_
     refine c_cond rfl (fun hc35 => ?_) (fun hc35 => ?_)
     ·have hv : v = 21 := by simp only [beq_iff_eq] at hc35; omega
      subst hv
      refine cR ?_
      refine lM rfl ?_
      refine l_callP hP ok_23 rfl rfl (out_allP (H1 := (bC, slV so p.out.length :: .float .f64 (F p.x) :: .float .f64 (F p.y) :: .bool p.o :: .float .f64 (F p.fx) :: .float .f64 (F p.fy) :: fvV sf st.length :: [lo, gl, .int .i64 (stems : Nat), .bool masked, .bool begun, .bool ended, .int .i64 (deep : Nat), .int .i64 (ops : Nat)], 46) :: (slH so (encS p.out) 34 ++ fvH sf (st.map flv) 41)) (fun w1 ha hb => f23_n w1 2 (by decide) bC p so sf st lo gl stems masked begun ended deep ops hlen hfv hb)) ?_
      intro ⟨st2, sf2⟩ ⟨hst, hl2, hfv2⟩
      simp only at hst hl2 hfv2 ⊢
      have hq2 : ∀ q ∈ st2, Opd q := fun q hm => hq q (bareL_mem (hst ▸ hm))
      obtain ⟨g, pre, sp, cap, rfl⟩ := hfv2.some (by rw [List.length_map]; omega)
      obtain ⟨a, s0, rfl, hl3⟩ := consN hl2
      obtain ⟨b, s1, rfl, hl4⟩ := consN hl3
      obtain rfl := List.length_eq_zero_iff.1 hl4
      have oa : a.natAbs ≤ 2147483648 := hq2 a (by simp)
      have ob : b.natAbs ≤ 2147483648 := hq2 b (by simp)
      have ba := hq2 a (by simp)
      have bb := hq2 b (by simp)
      refine l_perm (.cons _ (List.perm_append_comm (l₂ := [_]))) ?_
      refine nQ ?_
      refine c_draw [(g, pre ++ ([a, b].map flv ++ sp), 41)] mixed rfl ?_
      refine dM 0 rfl rfl ?_
      refine dN 1 rfl rfl ?_
      refine dV 2 rfl (y_fieldAddr fo_46_0 rfl) ?_
      refine dM 3 rfl rfl ?_
      refine dN 4 rfl rfl ?_
      refine dV 5 rfl (y_fieldAddr fo_46_1 rfl) ?_
      refine dM 9 rfl rfl ?_
      refine dN 10 rfl rfl ?_
      refine dV 11 rfl (y_fieldAddr fo_46_1 rfl) ?_
      refine d_ready (i := 6) (rs := [12]) (by kernel_rfl) (.cons (.there .here) .nil) (all_cons ?_ (all_one ?_))
      ·refine o_gives rfl rfl rfl (gy (y_load1 ld_44 rfl m0 rfl)) rfl ?_
       intro _ _
       refine dV 7 rfl (y_indexFv (j := 0) es_44 rfl rfl (by simp)) ?_
       refine dV 8 rfl (y_load1 ld_41 rfl m0 (fv_at (v := .float .f64 (F a)) rfl)) ?_
       refine d_ready (i := 12) (rs := []) (by kernel_rfl) (.cons (.there .here) .nil) (all_one ?_)
       refine o_gives rfl rfl rfl (gy (y_load1 ld_44 rfl m0 rfl)) rfl ?_
       intro _ _
       refine dV 13 rfl (y_indexFv (j := 1) es_44 rfl rfl (by simp)) ?_
       refine dV 14 rfl (y_load1 ld_41 rfl m0 (fv_at (v := .float .f64 (F b)) rfl)) ?_
       refine d_ready (i := 15) (rs := []) (by kernel_rfl) (.cons (.there .here) .nil) (all_one ?_)
       have hBx := hB0.x
       have hBy := hB0.y
       have hBfx := hB0.fx
       have hBfy := hB0.fy
       refine o_call rfl (no_guard rfl) ok_24 rfl rfl (out_mid (b := (bC, slV so p.out.length :: .float .f64 (F p.x) :: .float .f64 (F p.y) :: .bool p.o :: .float .f64 (F p.fx) :: .float .f64 (F p.fy) :: (fvV (some (g, pre, sp, cap)) [a, b].length :: [lo, gl, .int .i64 (stems : Nat), .bool masked, .bool true, .bool ended, .int .i64 (deep : Nat), .int .i64 (ops : Nat)]), 46)) (T := slH so (encS p.out) 34) [] [(g, pre ++ ([a, b].map flv ++ sp), 41)] (fun w1 ha hb => f24_any w1 bC p.x p.y p.fx p.fy a b (F a) (F b) p.o p.out so (fvV (some (g, pre, sp, cap)) [a, b].length :: [lo, gl, .int .i64 (stems : Nat), .bool masked, .bool true, .bool ended, .int .i64 (deep : Nat), .int .i64 (ops : Nat)]) (by omega) (by omega) (by omega) (by omega) (RF_F ba.lt) (RF_F bb.lt) (by omega) (by omega) hok (by omega) hb)) ?_
       intro so2 hok2
       refine d_end (by kernel_rfl) (.cons (.there .here) .nil) ?_
       refine q_block ?_
       refine qG ?_
       refine lM rfl ?_
       refine lM rfl ?_
       refine lN rfl ?_
       refine lV (y_fieldAddr fo_46_1 rfl) ?_
       refine lV (y_load1 ld_44 rfl m0 rfl) ?_
       refine lV (y_fvTo (fv := some (g, pre, sp, cap)) (xs := [a, b].map flv) (k := 0) es_44 hfv2 rfl rfl (Nat.zero_le _)) ?_
       refine lN rfl ?_
       refine lV (y_fieldAddr fo_46_1 rfl) ?_
       refine l_does rfl rfl (g_store1 (cs' := _ :: _ :: _ :: _ :: _ :: _ :: _ :: _) sz_44 rfl rfl (by first | rfl | exact fvV_cells _ _) rfl (by first | rfl | exact fvV_one _ _) rfl .here) ?_
       intro _ _
       refine l_nil ?_
       refine q_perm (.cons _ (List.perm_append_comm (l₁ := [_]))) ?_
       exact body_ret (rs := []) rfl (vs := []) trivial (out_endP (moveP p a b, stems, true, ended, so2, some (g, pre, [a, b].map flv ++ sp, cap)) ⟨(.rmove hst.symm), hok2, fvOk.cut hfv2⟩ rfl .refl) _ (.inl rfl)
      ·refine o_gives rfl rfl rfl (gy (y_load1 ld_44 rfl m0 rfl)) rfl ?_
       intro _ _
       refine dV 13 rfl (y_indexFv (j := 1) es_44 rfl rfl (by simp)) ?_
       refine dV 14 rfl (y_load1 ld_41 rfl m0 (fv_at (v := .float .f64 (F b)) rfl)) ?_
       refine d_ready (i := 6) (rs := []) (by kernel_rfl) (.cons (.there .here) .nil) (all_one ?_)
       refine o_gives rfl rfl rfl (gy (y_load1 ld_44 rfl m0 rfl)) rfl ?_
       intro _ _
       refine dV 7 rfl (y_indexFv (j := 0) es_44 rfl rfl (by simp)) ?_
       refine dV 8 rfl (y_load1 ld_41 rfl m0 (fv_at (v := .float .f64 (F a)) rfl)) ?_
       refine d_ready (i := 15) (rs := []) (by kernel_rfl) (.cons (.there .here) .nil) (all_one ?_)
       have hBx := hB0.x
       have hBy := hB0.y
       have hBfx := hB0.fx
       have hBfy := hB0.fy
       refine o_call rfl (no_guard rfl) ok_24 rfl rfl (out_mid (b := (bC, slV so p.out.length :: .float .f64 (F p.x) :: .float .f64 (F p.y) :: .bool p.o :: .float .f64 (F p.fx) :: .float .f64 (F p.fy) :: (fvV (some (g, pre, sp, cap)) [a, b].length :: [lo, gl, .int .i64 (stems : Nat), .bool masked, .bool true, .bool ended, .int .i64 (deep : Nat), .int .i64 (ops : Nat)]), 46)) (T := slH so (encS p.out) 34) [] [(g, pre ++ ([a, b].map flv ++ sp), 41)] (fun w1 ha hb => f24_any w1 bC p.x p.y p.fx p.fy a b (F a) (F b) p.o p.out so (fvV (some (g, pre, sp, cap)) [a, b].length :: [lo, gl, .int .i64 (stems : Nat), .bool masked, .bool true, .bool ended, .int .i64 (deep : Nat), .int .i64 (ops : Nat)]) (by omega) (by omega) (by omega) (by omega) (RF_F ba.lt) (RF_F bb.lt) (by omega) (by omega) hok (by omega) hb)) ?_
       intro so2 hok2
       refine d_end (by kernel_rfl) (.cons (.there .here) .nil) ?_
       refine q_block ?_
       refine qG ?_
       refine lM rfl ?_
       refine lM rfl ?_
       refine lN rfl ?_
       refine lV (y_fieldAddr fo_46_1 rfl) ?_
       refine lV (y_load1 ld_44 rfl m0 rfl) ?_
       refine lV (y_fvTo (fv := some (g, pre, sp, cap)) (xs := [a, b].map flv) (k := 0) es_44 hfv2 rfl rfl (Nat.zero_le _)) ?_
       refine lN rfl ?_
       refine lV (y_fieldAddr fo_46_1 rfl) ?_
       refine l_does rfl rfl (g_store1 (cs' := _ :: _ :: _ :: _ :: _ :: _ :: _ :: _) sz_44 rfl rfl (by first | rfl | exact fvV_cells _ _) rfl (by first | rfl | exact fvV_one _ _) rfl .here) ?_
       intro _ _
       refine l_nil ?_
       refine q_perm (.cons _ (List.perm_append_comm (l₁ := [_]))) ?_
       exact body_ret (rs := []) rfl (vs := []) trivial (out_endP (moveP p a b, stems, true, ended, so2, some (g, pre, [a, b].map flv ++ sp, cap)) ⟨(.rmove hst.symm), hok2, fvOk.cut hfv2⟩ rfl .refl) _ (.inl rfl)
     ·refine cR ?_
      refine lB rfl rfl rfl rfl ?_
      refine lA rfl ?_
      refine nQ ?_
      refine c_cond rfl (fun hc55 => ?_) (fun hc55 => ?_)
      ·have hv : v = 22 := by simp only [beq_iff_eq] at hc55; omega
       subst hv
       refine cR ?_
       refine lM rfl ?_
       refine l_callP hP ok_23 rfl rfl (out_allP (H1 := (bC, slV so p.out.length :: .float .f64 (F p.x) :: .float .f64 (F p.y) :: .bool p.o :: .float .f64 (F p.fx) :: .float .f64 (F p.fy) :: fvV sf st.length :: [lo, gl, .int .i64 (stems : Nat), .bool masked, .bool begun, .bool ended, .int .i64 (deep : Nat), .int .i64 (ops : Nat)], 46) :: (slH so (encS p.out) 34 ++ fvH sf (st.map flv) 41)) (fun w1 ha hb => f23_n w1 1 (by decide) bC p so sf st lo gl stems masked begun ended deep ops hlen hfv hb)) ?_
       intro ⟨st2, sf2⟩ ⟨hst, hl2, hfv2⟩
       simp only at hst hl2 hfv2 ⊢
       have hq2 : ∀ q ∈ st2, Opd q := fun q hm => hq q (bareL_mem (hst ▸ hm))
       obtain ⟨g, pre, sp, cap, rfl⟩ := hfv2.some (by rw [List.length_map]; omega)
       obtain ⟨a, s0, rfl, hl3⟩ := consN hl2
       obtain rfl := List.length_eq_zero_iff.1 hl3
       have oa : a.natAbs ≤ 2147483648 := hq2 a (by simp)
       have ba := hq2 a (by simp)
       refine l_perm (.cons _ (List.perm_append_comm (l₂ := [_]))) ?_
       refine nQ ?_
       refine c_draw [(g, pre ++ ([a].map flv ++ sp), 41)] mixed rfl ?_
       refine dM 0 rfl rfl ?_
       refine dN 1 rfl rfl ?_
       refine dV 2 rfl (y_fieldAddr fo_46_0 rfl) ?_
       refine dM 3 rfl rfl ?_
       refine dN 4 rfl rfl ?_
       refine dV 5 rfl (y_fieldAddr fo_46_1 rfl) ?_
       refine d_ready (i := 6) (rs := []) (by kernel_rfl) (.cons (.there .here) .nil) (all_one ?_)
       refine o_gives rfl rfl rfl (gy (y_load1 ld_44 rfl m0 rfl)) rfl ?_
       intro _ _
       refine dV 7 rfl (y_indexFv (j := 0) es_44 rfl rfl (by simp)) ?_
       refine dV 8 rfl (y_load1 ld_41 rfl m0 (fv_at (v := .float .f64 (F a)) rfl)) ?_
       refine d_ready (i := 9) (rs := []) (by kernel_rfl) (.cons (.there .here) .nil) (all_one ?_)
       have hBx := hB0.x
       have hBy := hB0.y
       have hBfx := hB0.fx
       have hBfy := hB0.fy
       refine o_call rfl (no_guard rfl) ok_24 rfl rfl (out_mid (b := (bC, slV so p.out.length :: .float .f64 (F p.x) :: .float .f64 (F p.y) :: .bool p.o :: .float .f64 (F p.fx) :: .float .f64 (F p.fy) :: (fvV (some (g, pre, sp, cap)) [a].length :: [lo, gl, .int .i64 (stems : Nat), .bool masked, .bool true, .bool ended, .int .i64 (deep : Nat), .int .i64 (ops : Nat)]), 46)) (T := slH so (encS p.out) 34) [] [(g, pre ++ ([a].map flv ++ sp), 41)] (fun w1 ha hb => f24_any w1 bC p.x p.y p.fx p.fy a 0 (F a) 0 p.o p.out so (fvV (some (g, pre, sp, cap)) [a].length :: [lo, gl, .int .i64 (stems : Nat), .bool masked, .bool true, .bool ended, .int .i64 (deep : Nat), .int .i64 (ops : Nat)]) (by omega) (by omega) (by omega) (by omega) (RF_F ba.lt) RF_zero (by omega) (by omega) hok (by omega) hb)) ?_
       intro so2 hok2
       refine d_end (by kernel_rfl) (.cons (.there .here) .nil) ?_
       refine q_block ?_
       refine qG ?_
       refine lM rfl ?_
       refine lM rfl ?_
       refine lN rfl ?_
       refine lV (y_fieldAddr fo_46_1 rfl) ?_
       refine lV (y_load1 ld_44 rfl m0 rfl) ?_
       refine lV (y_fvTo (fv := some (g, pre, sp, cap)) (xs := [a].map flv) (k := 0) es_44 hfv2 rfl rfl (Nat.zero_le _)) ?_
       refine lN rfl ?_
       refine lV (y_fieldAddr fo_46_1 rfl) ?_
       refine l_does rfl rfl (g_store1 (cs' := _ :: _ :: _ :: _ :: _ :: _ :: _ :: _) sz_44 rfl rfl (by first | rfl | exact fvV_cells _ _) rfl (by first | rfl | exact fvV_one _ _) rfl .here) ?_
       intro _ _
       refine l_nil ?_
       refine q_perm (.cons _ (List.perm_append_comm (l₁ := [_]))) ?_
       exact body_ret (rs := []) rfl (vs := []) trivial (out_endP (moveP p a 0, stems, true, ended, so2, some (g, pre, [a].map flv ++ sp, cap)) ⟨(.hmove hst.symm), hok2, fvOk.cut hfv2⟩ rfl .refl) _ (.inl rfl)
      ·refine cR ?_
       refine lB rfl rfl rfl rfl ?_
       refine lA rfl ?_
       refine nQ ?_
       refine c_cond rfl (fun hc69 => ?_) (fun hc69 => ?_)
       ·have hv : v = 4 := by simp only [beq_iff_eq] at hc69; omega
        subst hv
        refine cR ?_
        refine lM rfl ?_
        refine l_callP hP ok_23 rfl rfl (out_allP (H1 := (bC, slV so p.out.length :: .float .f64 (F p.x) :: .float .f64 (F p.y) :: .bool p.o :: .float .f64 (F p.fx) :: .float .f64 (F p.fy) :: fvV sf st.length :: [lo, gl, .int .i64 (stems : Nat), .bool masked, .bool begun, .bool ended, .int .i64 (deep : Nat), .int .i64 (ops : Nat)], 46) :: (slH so (encS p.out) 34 ++ fvH sf (st.map flv) 41)) (fun w1 ha hb => f23_n w1 1 (by decide) bC p so sf st lo gl stems masked begun ended deep ops hlen hfv hb)) ?_
        intro ⟨st2, sf2⟩ ⟨hst, hl2, hfv2⟩
        simp only at hst hl2 hfv2 ⊢
        have hq2 : ∀ q ∈ st2, Opd q := fun q hm => hq q (bareL_mem (hst ▸ hm))
        obtain ⟨g, pre, sp, cap, rfl⟩ := hfv2.some (by rw [List.length_map]; omega)
        obtain ⟨a, s0, rfl, hl3⟩ := consN hl2
        obtain rfl := List.length_eq_zero_iff.1 hl3
        have oa : a.natAbs ≤ 2147483648 := hq2 a (by simp)
        have ba := hq2 a (by simp)
        refine l_perm (.cons _ (List.perm_append_comm (l₂ := [_]))) ?_
        refine nQ ?_
        refine c_draw [(g, pre ++ ([a].map flv ++ sp), 41)] mixed rfl ?_
        refine dM 0 rfl rfl ?_
        refine dN 1 rfl rfl ?_
        refine dV 2 rfl (y_fieldAddr fo_46_0 rfl) ?_
        refine dM 3 rfl rfl ?_
        refine dN 4 rfl rfl ?_
        refine dV 5 rfl (y_fieldAddr fo_46_1 rfl) ?_
        refine d_ready (i := 6) (rs := []) (by kernel_rfl) (.cons (.there .here) .nil) (all_one ?_)
        refine o_gives rfl rfl rfl (gy (y_load1 ld_44 rfl m0 rfl)) rfl ?_
        intro _ _
        refine dV 7 rfl (y_indexFv (j := 0) es_44 rfl rfl (by simp)) ?_
        refine dV 8 rfl (y_load1 ld_41 rfl m0 (fv_at (v := .float .f64 (F a)) rfl)) ?_
        refine d_ready (i := 9) (rs := []) (by kernel_rfl) (.cons (.there .here) .nil) (all_one ?_)
        have hBx := hB0.x
        have hBy := hB0.y
        have hBfx := hB0.fx
        have hBfy := hB0.fy
        refine o_call rfl (no_guard rfl) ok_24 rfl rfl (out_mid (b := (bC, slV so p.out.length :: .float .f64 (F p.x) :: .float .f64 (F p.y) :: .bool p.o :: .float .f64 (F p.fx) :: .float .f64 (F p.fy) :: (fvV (some (g, pre, sp, cap)) [a].length :: [lo, gl, .int .i64 (stems : Nat), .bool masked, .bool true, .bool ended, .int .i64 (deep : Nat), .int .i64 (ops : Nat)]), 46)) (T := slH so (encS p.out) 34) [] [(g, pre ++ ([a].map flv ++ sp), 41)] (fun w1 ha hb => f24_any w1 bC p.x p.y p.fx p.fy 0 a 0 (F a) p.o p.out so (fvV (some (g, pre, sp, cap)) [a].length :: [lo, gl, .int .i64 (stems : Nat), .bool masked, .bool true, .bool ended, .int .i64 (deep : Nat), .int .i64 (ops : Nat)]) (by omega) (by omega) (by omega) (by omega) RF_zero (RF_F ba.lt) (by omega) (by omega) hok (by omega) hb)) ?_
        intro so2 hok2
        refine d_end (by kernel_rfl) (.cons (.there .here) .nil) ?_
        refine q_block ?_
        refine qG ?_
        refine lM rfl ?_
        refine lM rfl ?_
        refine lN rfl ?_
        refine lV (y_fieldAddr fo_46_1 rfl) ?_
        refine lV (y_load1 ld_44 rfl m0 rfl) ?_
        refine lV (y_fvTo (fv := some (g, pre, sp, cap)) (xs := [a].map flv) (k := 0) es_44 hfv2 rfl rfl (Nat.zero_le _)) ?_
        refine lN rfl ?_
        refine lV (y_fieldAddr fo_46_1 rfl) ?_
        refine l_does rfl rfl (g_store1 (cs' := _ :: _ :: _ :: _ :: _ :: _ :: _ :: _) sz_44 rfl rfl (by first | rfl | exact fvV_cells _ _) rfl (by first | rfl | exact fvV_one _ _) rfl .here) ?_
        intro _ _
        refine l_nil ?_
        refine q_perm (.cons _ (List.perm_append_comm (l₁ := [_]))) ?_
        exact body_ret (rs := []) rfl (vs := []) trivial (out_endP (moveP p 0 a, stems, true, ended, so2, some (g, pre, [a].map flv ++ sp, cap)) ⟨(.vmove hst.symm), hok2, fvOk.cut hfv2⟩ rfl .refl) _ (.inl rfl)
       ·refine cR ?_
        refine lB rfl rfl rfl rfl ?_
        refine lA rfl ?_
        refine nQ ?_
        refine c_cond rfl (fun hc83 => ?_) (fun hc83 => ?_)
        ·have hv : v = 14 := by simp only [beq_iff_eq] at hc83; omega
         subst hv
         refine cR ?_
         refine lM rfl ?_
         refine l_callP hP ok_23 rfl rfl (out_allP (H1 := (bC, slV so p.out.length :: .float .f64 (F p.x) :: .float .f64 (F p.y) :: .bool p.o :: .float .f64 (F p.fx) :: .float .f64 (F p.fy) :: fvV sf st.length :: [lo, gl, .int .i64 (stems : Nat), .bool masked, .bool begun, .bool ended, .int .i64 (deep : Nat), .int .i64 (ops : Nat)], 46) :: (slH so (encS p.out) 34 ++ fvH sf (st.map flv) 41)) (fun w1 ha hb => f23_n w1 0 (by decide) bC p so sf st lo gl stems masked begun ended deep ops hlen hfv hb)) ?_
         intro ⟨st2, sf2⟩ ⟨hst, hl2, hfv2⟩
         simp only at hst hl2 hfv2 ⊢
         have hq2 : ∀ q ∈ st2, Opd q := fun q hm => hq q (bareL_mem (hst ▸ hm))
         obtain rfl := List.length_eq_zero_iff.1 hl2
         refine nR ?_
         refine lM rfl ?_
         refine lN rfl ?_
         refine lV (y_fieldAddr fo_46_0 rfl) ?_
         have hBx := hB0.x
         have hBy := hB0.y
         have hBfx := hB0.fx
         have hBfy := hB0.fy
         refine l_call ok_25 rfl rfl (out_head (H1 := (bC, slV so p.out.length :: .float .f64 (F p.x) :: .float .f64 (F p.y) :: .bool p.o :: .float .f64 (F p.fx) :: .float .f64 (F p.fy) :: (fvV sf2 ([] : List Int).length :: [lo, gl, .int .i64 (stems : Nat), .bool masked, .bool true, .bool ended, .int .i64 (deep : Nat), .int .i64 (ops : Nat)]), 46) :: slH so (encS p.out) 34) (R := fvH sf2 (([] : List Int).map flv) 41) (fun w1 ha hb => f25_any w1 bC p.x p.y p.fx p.fy p.o p.out so (fvV sf2 ([] : List Int).length :: [lo, gl, .int .i64 (stems : Nat), .bool masked, .bool true, .bool ended, .int .i64 (deep : Nat), .int .i64 (ops : Nat)]) (by omega) (by omega) (by omega) (by omega) hok (by omega) hb)) ?_
         intro ⟨out2, so2⟩ ⟨hout, hok2⟩
         simp only at hout hok2 ⊢
         subst hout
         refine nG ?_
         refine lM rfl ?_
         refine lN rfl ?_
         refine lV (y_fieldAddr fo_46_7 rfl) ?_
         refine l_does rfl rfl (g_store1 (cs' := _ :: _ :: _ :: _ :: _ :: _ :: _ :: _ :: _ :: _ :: _ :: _ :: _ :: _) sz_4 rfl rfl (by first | rfl | exact fvV_cells _ _) rfl (by first | rfl | exact fvV_one _ _) rfl .here) ?_
         intro _ _
         refine l_nil ?_
         refine q_block ?_
         refine qG ?_
         refine lM rfl ?_
         refine lM rfl ?_
         refine lN rfl ?_
         refine lV (y_fieldAddr fo_46_1 rfl) ?_
         refine lV (y_load1 ld_44 rfl m0 rfl) ?_
         refine lV (y_fvTo (fv := sf2) (xs := []) (k := 0) es_44 hfv2 rfl rfl (Nat.zero_le _)) ?_
         refine lN rfl ?_
         refine lV (y_fieldAddr fo_46_1 rfl) ?_
         refine l_does rfl rfl (g_store1 (cs' := _ :: _ :: _ :: _ :: _ :: _ :: _ :: _) sz_44 rfl rfl (by first | rfl | exact fvV_cells _ _) rfl (by first | rfl | exact fvV_one _ _) rfl .here) ?_
         intro _ _
         refine l_nil ?_
         exact body_ret (rs := []) rfl (vs := []) trivial (out_endP (closeP p, stems, true, true, so2, fvNil sf2 []) ⟨(.fin hst.symm), hok2, fvNil_ok hfv2⟩ rfl (by cases sf2 <;> exact .refl)) _ (.inl rfl)
        ·refine cR ?_
         refine lM rfl ?_
         refine lN rfl ?_
         refine lV (y_fieldAddr fo_46_0 rfl) ?_
         refine lV (y_fieldAddr fo_43_3 rfl) ?_
         refine lV (y_load1 ld_4 rfl m0 rfl) ?_
         refine l_callP hP ok_12 rfl rfl (out_keepP (fun w1 => f12_any w1 _)) ?_
         intro _ hn
         have hop : p.o = true := hn
         refine nG ?_
         refine lM rfl ?_
         refine lM rfl ?_
         refine l_callP hP ok_26 rfl rfl (out_allP (H1 := (bC, slV so p.out.length :: .float .f64 (F p.x) :: .float .f64 (F p.y) :: .bool p.o :: .float .f64 (F p.fx) :: .float .f64 (F p.fy) :: fvV sf st.length :: [lo, gl, .int .i64 (stems : Nat), .bool masked, .bool begun, .bool ended, .int .i64 (deep : Nat), .int .i64 (ops : Nat)], 46) :: (slH so (encS p.out) 34 ++ fvH sf (st.map flv) 41)) (fun w1 ha hb => f26_any w1 bC M v p so sf [lo, gl, .int .i64 (stems : Nat), .bool masked, .bool begun, .bool ended, .int .i64 (deep : Nat), .int .i64 (ops : Nat)] st hlen hq hB0 hM hok hfv (by omega) hb)) ?_
         intro ⟨p', so'⟩ ⟨hp', hok'⟩
         simp only at hp' hok' ⊢
         refine l_nil ?_
         refine q_block ?_
         refine qG ?_
         refine lM rfl ?_
         refine lM rfl ?_
         refine lN rfl ?_
         refine lV (y_fieldAddr fo_46_1 rfl) ?_
         refine lV (y_load1 ld_44 rfl m0 rfl) ?_
         refine lV (y_fvTo (fv := sf) (xs := st.map flv) (k := 0) es_44 hfv (by rw [List.length_map]; rfl) rfl (Nat.zero_le _)) ?_
         refine lN rfl ?_
         refine lV (y_fieldAddr fo_46_1 rfl) ?_
         refine l_does rfl rfl (g_store1 (cs' := _ :: _ :: _ :: _ :: _ :: _ :: _ :: _) sz_44 rfl rfl (by first | rfl | exact fvV_cells _ _) rfl (by first | rfl | exact fvV_one _ _) rfl .here) ?_
         intro _ _
         refine l_nil ?_
         exact body_ret (rs := []) rfl (vs := []) trivial (out_endP (p', stems, begun, ended, so', fvNil sf (st.map flv)) ⟨(.path hop hp'), hok', fvNil_ok hfv⟩ rfl (by cases sf <;> exact .refl)) _ (.inl rfl)
end Go.Proofs.YtbepljmeflndkaaGreatDoor
namespace Go.Proofs.YtbepljmeflndkaaGreatDoor
open Go.Eng Go.Fl
/-- Lists of bytes that a slice has, in memory that was there and is not among S. -/
def RdL (w : World) (S : List Nat) (A : Option Addr) (bss : List (List Nat)) : Prop := ∀ i bs, bss[i]? = some bs → (∃ p, A = some p ∧ p.block < w.heap.size ∧ p.block ∉ S ∧ ∃ Ai ci, w.cell? (p.add (i * 1)) = some (.slice Ai bs.length ci) ∧ RdB w S Ai bs ∧ bs.length ≤ ci) ∧ ∀ u ∈ bs, u < 256
theorem RdL.into {w0 w : World} {S : List Nat} {H : Heap} {A : Option Addr} {bss : List (List Nat)} (h : RdL w0 S A bss) (hw : Hp w0 S H w) : RdL w (H.map (·.1)) A bss := by
  intro i bs hi
  obtain ⟨⟨p, rfl, hb, hS, Ai, ci, hc, hB, hl⟩, hu⟩ := h i bs hi
  refine ⟨⟨p, rfl, Nat.lt_of_lt_of_le hb hw.size, ?_, Ai, ci, ?_, hB.into hw, hl⟩, hu⟩
  · intro hm
    obtain ⟨⟨g, cs, e⟩, hg, he⟩ := List.mem_map.1 hm
    simp only at he
    rcases (hw.blk g cs e hg).2 with h1 | h1
    · exact hS (he ▸ h1)
    · omega
  · rw [hw.oldCell (by rw [block_add]; exact hb) (by rw [block_add]; exact hS)]
    exact hc
theorem moveP_bd {p : PSt} {M : Nat} {a b : Int} (h : p.Bd M) (ha : Opd a) (hb : Opd b) : (moveP p a b).Bd (M + 2147483648) := by
  obtain ⟨h1, h2, h3, h4⟩ := h
  unfold Opd at ha hb
  exact ⟨show (p.x + a).natAbs ≤ _ by omega, show (p.y + b).natAbs ≤ _ by omega, show (p.x + a).natAbs ≤ _ by omega, show (p.y + b).natAbs ≤ _ by omega⟩
theorem moveP_len {p : PSt} {a b : Int} : (moveP p a b).out.length ≤ p.out.length + 2 := by
  show (cloOut (clo p.o p.x p.y p.fx p.fy) p.fx p.fy p.out ++ [_]).length ≤ _
  rw [List.length_append]
  have := cloOut_len (clo p.o p.x p.y p.fx p.fy) p.fx p.fy p.out
  simp only [List.length_singleton]; omega
theorem Inv.num {c : CSt} {q : Int} (h : Inv c) (ho : c.ops + 1 < 2000) (hl : c.st.length + 1 ≤ 48) (hq : Opd q) : Inv { c.tick with st := c.st ++ [q] } := by
  refine ⟨ho, by simpa using hl, fun x hx => ?_, h.bd.mono (Nat.mul_le_mul_right _ (Nat.le_succ _)), ?_, Nat.le_trans h.stems (Nat.mul_le_mul_left _ (Nat.le_succ _))⟩
  · rcases List.mem_append.1 hx with h1 | h1
    · exact h.opd x h1
    · simp at h1; subst h1; exact hq
  · have h1 := h.out
    show c.p.out.length + (c.st ++ [q]).length ≤ 2 * (c.ops + 1)
    rw [List.length_append, List.length_singleton]; omega
theorem Inv.tick {c : CSt} (h : Inv c) (ho : c.ops + 1 < 2000) : Inv c.tick :=
  ⟨ho, h.len, h.opd, h.bd.mono (Nat.mul_le_mul_right _ (Nat.le_succ _)), by have := h.out; show c.p.out.length + c.st.length ≤ 2 * (c.ops + 1); omega, Nat.le_trans h.stems (Nat.mul_le_mul_left _ (Nat.le_succ _))⟩
/-- The pen and the stems change, the stack is gone. -/
theorem Inv.next {c c' : CSt} (h : Inv c) (ho : c.ops + 1 < 2000) (hops : c'.ops = c.ops + 1) (hst : c'.st = []) (hbd : c'.p.Bd (c.ops * 128849018880 + 128849018880)) (hout : c'.p.out.length ≤ c.p.out.length + c.st.length ∨ c'.p.out.length ≤ c.p.out.length + 2) (hs : c'.stems ≤ c.stems + 48) : Inv c' := by
  refine ⟨by omega, by rw [hst]; exact Nat.zero_le _, fun q hq => (by rw [hst] at hq; cases hq), ?_, ?_, ?_⟩
  · rw [hops]; exact hbd.mono (by omega)
  · rw [hst, hops]; have := h.out; simp only [List.length_nil]; omega
  · rw [hops]; have := h.stems; omega
theorem Inv.op {v : Nat} {c c1 : CSt} (h : Inv c) (ho : c.ops + 1 < 2000) (hr : OpR v c.tick c1) : Inv c1 ∧ c1.deep = c.deep := by
  have hl := h.len
  have hb (n : Int) : ∀ q ∈ bareL n c.begun c.st, Opd q := fun q hq => h.opd q (bareL_mem hq)
  generalize hd : c.tick = d at hr
  cases hr with
  | stem hv h2 hm hb2 =>
    subst hd
    refine ⟨h.next ho rfl rfl (h.bd.mono (Nat.le_add_right _ _)) (.inl (Nat.le_add_right _ _)) ?_, rfl⟩
    have := bareL_len (-1) c.begun c.st
    show c.stems + (bareL (-1) c.begun c.st).length / 2 ≤ _
    omega
  | rmove hb2 =>
    subst hd
    have h1 := hb 2
    rw [show bareL 2 c.begun c.st = _ from hb2] at h1
    exact ⟨h.next ho rfl rfl ((moveP_bd h.bd (h1 _ (by simp)) (h1 _ (by simp))).mono (by omega)) (.inr moveP_len) (Nat.le_add_right _ _), rfl⟩
  | hmove hb2 =>
    subst hd
    have h1 := hb 1
    rw [show bareL 1 c.begun c.st = _ from hb2] at h1
    exact ⟨h.next ho rfl rfl ((moveP_bd h.bd (h1 _ (by simp)) Opd_zero).mono (by omega)) (.inr moveP_len) (Nat.le_add_right _ _), rfl⟩
  | vmove hb2 =>
    subst hd
    have h1 := hb 1
    rw [show bareL 1 c.begun c.st = _ from hb2] at h1
    exact ⟨h.next ho rfl rfl ((moveP_bd h.bd Opd_zero (h1 _ (by simp))).mono (by omega)) (.inr moveP_len) (Nat.le_add_right _ _), rfl⟩
  | fin hb2 =>
    subst hd
    refine ⟨h.next ho rfl rfl ((show PSt.Bd (closeP c.p) _ from ⟨h.bd.x, h.bd.y, h.bd.fx, h.bd.fy⟩).mono (Nat.le_add_right _ _)) (.inr ?_) (Nat.le_add_right _ _), rfl⟩
    exact Nat.le_trans (cloOut_len (clo c.p.o c.p.x c.p.y c.p.fx c.p.fy) c.p.fx c.p.fy c.p.out) (Nat.le_succ _)
  | path hop hp =>
    subst hd
    have h1 := pathP_all hp (M := c.ops * 128849018880) h.bd h.opd
    have h2 : c.tick.st.length ≤ 48 := hl
    exact ⟨h.next ho rfl rfl (h1.1.mono (by omega)) (.inl h1.2) (Nat.le_add_right _ _), rfl⟩
theorem Inv.flex {w : Nat} {c : CSt} {p' : PSt} (h : Inv c) (ho : c.ops + 1 < 2000) (hr : flexP w c.p c.st = some p') : Inv { c.tick with p := p', st := [] } := by
  have h1 := flexP_all hr h.bd h.opd
  exact h.next ho rfl rfl (h1.1.mono (by omega)) (.inl h1.2) (Nat.le_add_right _ _)
theorem Inv.mask {c : CSt} (h : Inv c) (ho : c.ops + 1 < 2000) : Inv { stemC c.tick with masked := true } := by
  have hl := h.len
  refine h.next ho rfl rfl (h.bd.mono (Nat.le_add_right _ _)) (.inl (Nat.le_add_right _ _)) ?_
  have := bareL_len (-1) c.begun c.st
  show c.stems + (bareL (-1) c.begun c.st).length / 2 ≤ _
  omega
theorem Inv.call {c : CSt} {s : List Int} {q : Int} {d : Nat} (h : Inv c) (hs : c.st = s ++ [q]) : Inv { c with st := s, deep := d } := by
  have h1 := h.len
  have h2 := h.out
  rw [hs, List.length_append, List.length_singleton] at h1 h2
  exact ⟨h.ops, by show s.length ≤ 48; omega, fun x hx => h.opd x (by rw [hs]; exact List.mem_append_left _ hx), h.bd, by show c.p.out.length + s.length ≤ 2 * c.ops; omega, h.stems⟩
theorem Inv.deep {c : CSt} {d : Nat} (h : Inv c) : Inv { c with deep := d } := ⟨h.ops, h.len, h.opd, h.bd, h.out, h.stems⟩
theorem cmp_eq (a b : Int) : cmpB .eql (compare a b) = some (decide (a = b)) := by
  unfold cmpB
  rcases Int.lt_trichotomy a b with h | h | h
  · rw [Int.compare_eq_lt.2 h, decide_eq_false (by omega)]; rfl
  · rw [Int.compare_eq_eq.2 h, decide_eq_true (by omega)]; rfl
  · rw [Int.compare_eq_gt.2 h, decide_eq_false (by omega)]; rfl
theorem snocE {l : List Int} (h : 1 ≤ l.length) : ∃ s q, l = s ++ [q] := by
  refine ⟨l.dropLast, l.getLast (by intro hc; subst hc; simp at h), (List.dropLast_concat_getLast _).symm⟩
theorem last_at {s : List Int} {q : Int} : ((s ++ [q]).map flv)[s.length]? = some (.float .f64 (F q)) := by
  rw [List.getElem?_map, List.getElem?_append_right (Nat.le_refl _), Nat.sub_self]; rfl
theorem perm_back {b X : Blk} {T Y : Heap} (h : [X] = Y) : (b :: X :: T).Perm (b :: (T ++ Y)) := by
  subst h
  exact .cons _ (List.perm_append_comm (l₁ := [X]))
theorem fv_snoc {g cap : Nat} {pre sp : List Value} {s : List Int} {q : Int} {e : TypeId} : [(g, pre ++ ((s ++ [q]).map flv ++ sp), e)] = fvH (some (g, pre, flv q :: sp, cap)) (s.map flv) e := by
  show _ = [(g, pre ++ (s.map flv ++ (flv q :: sp)), e)]
  simp
theorem fvOk_snoc {g cap : Nat} {pre sp : List Value} {s : List Int} {q : Int} (h : fvOk (some (g, pre, sp, cap)) ((s ++ [q]).map flv)) : fvOk (some (g, pre, flv q :: sp, cap)) (s.map flv) := by
  obtain ⟨h1, h2, h3⟩ := h
  rw [List.length_map, List.length_append, List.length_singleton] at h1 h3
  exact ⟨by rw [List.length_map]; omega, h2, by rw [List.length_map, List.length_cons]; omega⟩
end Go.Proofs.YtbepljmeflndkaaGreatDoor
namespace Go.Proofs.YtbepljmeflndkaaGreatDoor
open Go.Eng Go.Fl
set_option maxRecDepth 100000
attribute [local irreducible] IntKind.wrap Int.tdiv Int.tmod Int.emod maxLen F G
/-- What a run of bytes does, at a depth. -/
def RunOk (deep : Nat) : Prop := ∀ (w : World) (bC : Nat) (p : PSt) (so : Sv) (sf : Fv) (st : List Int) (Alo Agl : Option Addr) (cLo cGl : Nat) (los gls : List (List Nat)) (stems : Nat) (masked begun ended : Bool) (ops : Nat) (A : Option Addr) (cl : Nat) (b : List Nat), Inv ⟨p, st, stems, masked, begun, ended, deep, ops⟩ → slOk so p.out.length 7 (encS p.out) → fvOk sf (st.map flv) → RdL w (((bC, slV so p.out.length :: .float .f64 (F p.x) :: .float .f64 (F p.y) :: .bool p.o :: .float .f64 (F p.fx) :: .float .f64 (F p.fy) :: fvV sf st.length :: [.slice Alo los.length cLo, .slice Agl gls.length cGl, .int .i64 (stems : Nat), .bool masked, .bool begun, .bool ended, .int .i64 (deep : Nat), .int .i64 (ops : Nat)], 46) :: (slH so (encS p.out) 34 ++ fvH sf (st.map flv) 41)).map (·.1)) Alo los → RdL w (((bC, slV so p.out.length :: .float .f64 (F p.x) :: .float .f64 (F p.y) :: .bool p.o :: .float .f64 (F p.fx) :: .float .f64 (F p.fy) :: fvV sf st.length :: [.slice Alo los.length cLo, .slice Agl gls.length cGl, .int .i64 (stems : Nat), .bool masked, .bool begun, .bool ended, .int .i64 (deep : Nat), .int .i64 (ops : Nat)], 46) :: (slH so (encS p.out) 34 ++ fvH sf (st.map flv) 41)).map (·.1)) Agl gls → los.length ≤ 300 → gls.length ≤ 300 → RdB w (((bC, slV so p.out.length :: .float .f64 (F p.x) :: .float .f64 (F p.y) :: .bool p.o :: .float .f64 (F p.fx) :: .float .f64 (F p.fy) :: fvV sf st.length :: [.slice Alo los.length cLo, .slice Agl gls.length cGl, .int .i64 (stems : Nat), .bool masked, .bool begun, .bool ended, .int .i64 (deep : Nat), .int .i64 (ops : Nat)], 46) :: (slH so (encS p.out) 34 ++ fvH sf (st.map flv) 41)).map (·.1)) A b → b.length ≤ cl → (∀ u ∈ b, u < 256) → Hp w (((bC, slV so p.out.length :: .float .f64 (F p.x) :: .float .f64 (F p.y) :: .bool p.o :: .float .f64 (F p.fx) :: .float .f64 (F p.fy) :: fvV sf st.length :: [.slice Alo los.length cLo, .slice Agl gls.length cGl, .int .i64 (stems : Nat), .bool masked, .bool begun, .bool ended, .int .i64 (deep : Nat), .int .i64 (ops : Nat)], 46) :: (slH so (encS p.out) 34 ++ fvH sf (st.map flv) 41)).map (·.1)) ((bC, slV so p.out.length :: .float .f64 (F p.x) :: .float .f64 (F p.y) :: .bool p.o :: .float .f64 (F p.fx) :: .float .f64 (F p.fy) :: fvV sf st.length :: [.slice Alo los.length cLo, .slice Agl gls.length cGl, .int .i64 (stems : Nat), .bool masked, .bool begun, .bool ended, .int .i64 (deep : Nat), .int .i64 (ops : Nat)], 46) :: (slH so (encS p.out) 34 ++ fvH sf (st.map flv) 41)) w →
    Calls Tryz.prog 9 [.pointer (some ⟨bC, 0, none⟩), .slice A b.length cl].toArray w (OutP w (((bC, slV so p.out.length :: .float .f64 (F p.x) :: .float .f64 (F p.y) :: .bool p.o :: .float .f64 (F p.fx) :: .float .f64 (F p.fy) :: fvV sf st.length :: [.slice Alo los.length cLo, .slice Agl gls.length cGl, .int .i64 (stems : Nat), .bool masked, .bool begun, .bool ended, .int .i64 (deep : Nat), .int .i64 (ops : Nat)], 46) :: (slH so (encS p.out) 34 ++ fvH sf (st.map flv) 41)).map (·.1)) (fun z : CSt × Sv × Fv => RunR los gls ⟨p, st, stems, masked, begun, ended, deep, ops⟩ b z.1 ∧ Inv z.1 ∧ z.1.deep = deep ∧ deep < 9 ∧ slOk z.2.1 z.1.p.out.length 7 (encS z.1.p.out) ∧ fvOk z.2.2 (z.1.st.map flv)) (fun _ => .tuple #[]) (fun z => (bC, slV z.2.1 z.1.p.out.length :: .float .f64 (F z.1.p.x) :: .float .f64 (F z.1.p.y) :: .bool z.1.p.o :: .float .f64 (F z.1.p.fx) :: .float .f64 (F z.1.p.fy) :: fvV z.2.2 z.1.st.length :: [.slice Alo los.length cLo, .slice Agl gls.length cGl, .int .i64 (z.1.stems : Nat), .bool z.1.masked, .bool z.1.begun, .bool z.1.ended, .int .i64 (z.1.deep : Nat), .int .i64 (z.1.ops : Nat)], 46) :: (slH z.2.1 (encS z.1.p.out) 34 ++ fvH z.2.2 (z.1.st.map flv) 41)) PO)
/-- A subroutine's call. -/
def CallR (los gls : List (List Nat)) (loc : Bool) (c c2 : CSt) : Prop := ∃ s k sub c1, c.st = s ++ [k * 65536] ∧ 0 ≤ k + 107 ∧ (bif loc then los else gls)[(k + 107).toNat]? = some sub ∧ c.deep + 1 < 9 ∧ RunR los gls { c with st := s, deep := c.deep + 1 } sub c1 ∧ c2 = { c1 with deep := c.deep }
def CallOk (deep : Nat) : Prop := ∀ (w : World) (bC : Nat) (p : PSt) (so : Sv) (sf : Fv) (st : List Int) (Alo Agl : Option Addr) (cLo cGl : Nat) (los gls : List (List Nat)) (stems : Nat) (masked begun ended : Bool) (ops : Nat) (loc : Bool), Inv ⟨p, st, stems, masked, begun, ended, deep, ops⟩ → slOk so p.out.length 7 (encS p.out) → fvOk sf (st.map flv) → RdL w (((bC, slV so p.out.length :: .float .f64 (F p.x) :: .float .f64 (F p.y) :: .bool p.o :: .float .f64 (F p.fx) :: .float .f64 (F p.fy) :: fvV sf st.length :: [.slice Alo los.length cLo, .slice Agl gls.length cGl, .int .i64 (stems : Nat), .bool masked, .bool begun, .bool ended, .int .i64 (deep : Nat), .int .i64 (ops : Nat)], 46) :: (slH so (encS p.out) 34 ++ fvH sf (st.map flv) 41)).map (·.1)) Alo los → RdL w (((bC, slV so p.out.length :: .float .f64 (F p.x) :: .float .f64 (F p.y) :: .bool p.o :: .float .f64 (F p.fx) :: .float .f64 (F p.fy) :: fvV sf st.length :: [.slice Alo los.length cLo, .slice Agl gls.length cGl, .int .i64 (stems : Nat), .bool masked, .bool begun, .bool ended, .int .i64 (deep : Nat), .int .i64 (ops : Nat)], 46) :: (slH so (encS p.out) 34 ++ fvH sf (st.map flv) 41)).map (·.1)) Agl gls → los.length ≤ 300 → gls.length ≤ 300 → Hp w (((bC, slV so p.out.length :: .float .f64 (F p.x) :: .float .f64 (F p.y) :: .bool p.o :: .float .f64 (F p.fx) :: .float .f64 (F p.fy) :: fvV sf st.length :: [.slice Alo los.length cLo, .slice Agl gls.length cGl, .int .i64 (stems : Nat), .bool masked, .bool begun, .bool ended, .int .i64 (deep : Nat), .int .i64 (ops : Nat)], 46) :: (slH so (encS p.out) 34 ++ fvH sf (st.map flv) 41)).map (·.1)) ((bC, slV so p.out.length :: .float .f64 (F p.x) :: .float .f64 (F p.y) :: .bool p.o :: .float .f64 (F p.fx) :: .float .f64 (F p.fy) :: fvV sf st.length :: [.slice Alo los.length cLo, .slice Agl gls.length cGl, .int .i64 (stems : Nat), .bool masked, .bool begun, .bool ended, .int .i64 (deep : Nat), .int .i64 (ops : Nat)], 46) :: (slH so (encS p.out) 34 ++ fvH sf (st.map flv) 41)) w →
    Calls Tryz.prog 14 [.pointer (some ⟨bC, 0, none⟩), .bool loc].toArray w (OutP w (((bC, slV so p.out.length :: .float .f64 (F p.x) :: .float .f64 (F p.y) :: .bool p.o :: .float .f64 (F p.fx) :: .float .f64 (F p.fy) :: fvV sf st.length :: [.slice Alo los.length cLo, .slice Agl gls.length cGl, .int .i64 (stems : Nat), .bool masked, .bool begun, .bool ended, .int .i64 (deep : Nat), .int .i64 (ops : Nat)], 46) :: (slH so (encS p.out) 34 ++ fvH sf (st.map flv) 41)).map (·.1)) (fun z : CSt × Sv × Fv => CallR los gls loc ⟨p, st, stems, masked, begun, ended, deep, ops⟩ z.1 ∧ Inv z.1 ∧ z.1.deep = deep ∧ slOk z.2.1 z.1.p.out.length 7 (encS z.1.p.out) ∧ fvOk z.2.2 (z.1.st.map flv)) (fun _ => .tuple #[]) (fun z => (bC, slV z.2.1 z.1.p.out.length :: .float .f64 (F z.1.p.x) :: .float .f64 (F z.1.p.y) :: .bool z.1.p.o :: .float .f64 (F z.1.p.fx) :: .float .f64 (F z.1.p.fy) :: fvV z.2.2 z.1.st.length :: [.slice Alo los.length cLo, .slice Agl gls.length cGl, .int .i64 (z.1.stems : Nat), .bool z.1.masked, .bool z.1.begun, .bool z.1.ended, .int .i64 (z.1.deep : Nat), .int .i64 (z.1.ops : Nat)], 46) :: (slH z.2.1 (encS z.1.p.out) 34 ++ fvH z.2.2 (z.1.st.map flv) 41)) PO)
theorem opd_tdiv {q : Int} (h : Opd q) : -32768 ≤ q.tdiv 65536 ∧ q.tdiv 65536 ≤ 32768 := by
  have h1 : (q.tdiv 65536).natAbs = q.natAbs / 65536 := Int.natAbs_tdiv q 65536
  unfold Opd at h
  generalize q.tdiv 65536 = t at h1 ⊢
  omega
set_option maxHeartbeats 8000000 in
theorem call_of_run {deep : Nat} (hdp : deep < 100) (hrun : RunOk (deep + 1)) : CallOk deep := by
 intro w bC p so sf st Alo Agl cLo cGl los gls stems masked begun ended ops loc hI hok hfv hLo hGl hlo hgl hw
 have hI48 := hI.len
 simp only at hI48
 have hnil := fvOk.nil hfv
 rw [List.length_map] at hnil
 have hP : Pq PO (bodyPost Tryz.prog Tryz.f14 (OutP w (((bC, slV so p.out.length :: .float .f64 (F p.x) :: .float .f64 (F p.y) :: .bool p.o :: .float .f64 (F p.fx) :: .float .f64 (F p.fy) :: fvV sf st.length :: [.slice Alo los.length cLo, .slice Agl gls.length cGl, .int .i64 (stems : Nat), .bool masked, .bool begun, .bool ended, .int .i64 (deep : Nat), .int .i64 (ops : Nat)], 46) :: (slH so (encS p.out) 34 ++ fvH sf (st.map flv) 41)).map (·.1)) (fun z : CSt × Sv × Fv => CallR los gls loc ⟨p, st, stems, masked, begun, ended, deep, ops⟩ z.1 ∧ Inv z.1 ∧ z.1.deep = deep ∧ slOk z.2.1 z.1.p.out.length 7 (encS z.1.p.out) ∧ fvOk z.2.2 (z.1.st.map flv)) (fun _ => .tuple #[]) (fun z => (bC, slV z.2.1 z.1.p.out.length :: .float .f64 (F z.1.p.x) :: .float .f64 (F z.1.p.y) :: .bool z.1.p.o :: .float .f64 (F z.1.p.fx) :: .float .f64 (F z.1.p.fy) :: fvV z.2.2 z.1.st.length :: [.slice Alo los.length cLo, .slice Agl gls.length cGl, .int .i64 (z.1.stems : Nat), .bool z.1.masked, .bool z.1.begun, .bool z.1.ended, .int .i64 (z.1.deep : Nat), .int .i64 (z.1.ops : Nat)], 46) :: (slH z.2.1 (encS z.1.p.out) 34 ++ fvH z.2.2 (z.1.st.map flv) 41)) PO)) 94 [] w (((bC, slV so p.out.length :: .float .f64 (F p.x) :: .float .f64 (F p.y) :: .bool p.o :: .float .f64 (F p.fx) :: .float .f64 (F p.fy) :: fvV sf st.length :: [.slice Alo los.length cLo, .slice Agl gls.length cGl, .int .i64 (stems : Nat), .bool masked, .bool begun, .bool ended, .int .i64 (deep : Nat), .int .i64 (ops : Nat)], 46) :: (slH so (encS p.out) 34 ++ fvH sf (st.map flv) 41)).map (·.1)) := bodyP_out
 refine enter (n := 94) Tryz.func14 rfl rfl rfl hw ?_
 refine cR ?_
 refine lM rfl ?_
 refine lN rfl ?_
 refine lV (y_fieldAddr fo_46_3 rfl) ?_
 refine lV (y_load1 ld_23 rfl m0 rfl) ?_
 refine lA rfl ?_
 refine nQ ?_
 refine c_seq ?_
 refine cR ?_
 refine lM rfl ?_
 refine nQ ?_
 refine c_cut (ι := Option Addr × Nat × List (List Nat)) (φ := fun z => z.2.2 = (bif loc then los else gls) ∧ RdL w (((bC, slV so p.out.length :: .float .f64 (F p.x) :: .float .f64 (F p.y) :: .bool p.o :: .float .f64 (F p.fx) :: .float .f64 (F p.fy) :: fvV sf st.length :: [.slice Alo los.length cLo, .slice Agl gls.length cGl, .int .i64 (stems : Nat), .bool masked, .bool begun, .bool ended, .int .i64 (deep : Nat), .int .i64 (ops : Nat)], 46) :: (slH so (encS p.out) 34 ++ fvH sf (st.map flv) 41)).map (·.1)) z.1 z.2.2 ∧ z.2.2.length ≤ 300) (L' := fun z => [(0, .pointer (some ⟨bC, 0, none⟩)), (4, .slice z.1 z.2.2.length z.2.1)]) (H' := fun _ => (bC, slV so p.out.length :: .float .f64 (F p.x) :: .float .f64 (F p.y) :: .bool p.o :: .float .f64 (F p.fx) :: .float .f64 (F p.fy) :: fvV sf st.length :: [.slice Alo los.length cLo, .slice Agl gls.length cGl, .int .i64 (stems : Nat), .bool masked, .bool begun, .bool ended, .int .i64 (deep : Nat), .int .i64 (ops : Nat)], 46) :: (slH so (encS p.out) 34 ++ fvH sf (st.map flv) 41)) ?_ ?_
 ·refine c_cond rfl (fun hc11 => ?_) (fun hc11 => ?_)
  ·refine c_region ?_
   refine lM rfl ?_
   refine lN rfl ?_
   refine lV (y_fieldAddr fo_46_2 rfl) ?_
   refine lV (y_load1 ld_23 rfl m0 rfl) ?_
   refine lA rfl ?_
   refine l_nil ?_
   exact q_cut (Alo, cLo, los) ⟨by rw [hc11]; rfl, hLo, hlo⟩ ⟨rfl, rfl, trivial⟩ (.cons .here .refl)
  ·refine c_skip ?_
   exact q_cut (Agl, cGl, gls) ⟨by rw [hc11]; rfl, hGl, hgl⟩ ⟨rfl, rfl, trivial⟩ (.cons .here .refl)
 intro ⟨Al, cAl, lst⟩ ⟨hlst, hRL, hl3⟩
 simp only at hlst hRL hl3 ⊢
 refine qR ?_
 refine lM rfl ?_
 refine lN rfl ?_
 refine lV (y_fieldAddr fo_46_1 rfl) ?_
 refine lV (y_load1 ld_44 rfl m0 rfl) ?_
 refine lV (y_lenFv sl_44 rfl hnil) ?_
 refine lV (y_bin rfl rfl rfl (fit64 (by omega) (by omega))) ?_
 refine lA rfl ?_
 refine nR ?_
 refine lM rfl ?_
 refine lB rfl rfl rfl rfl ?_
 refine l_callP hP ok_12 rfl rfl (out_keepP (fun w1 => f12_any w1 _)) ?_
 intro _ hn
 have hl1 : 1 ≤ st.length := by simp only [decide_eq_true_eq] at hn; omega
 obtain ⟨s, q, rfl⟩ := snocE hl1
 obtain ⟨g, pre, sp, cap, rfl⟩ := hfv.some (by rw [List.length_map]; omega)
 have oq : Opd q := hI.opd q (by simp)
 have tq := opd_tdiv oq
 rw [show (((s ++ [q]).length : Nat) : Int) - 1 = (s.length : Nat) by rw [List.length_append, List.length_singleton]; omega]
 refine l_perm (.cons _ (List.perm_append_comm (l₂ := [_]))) ?_
 refine nQ ?_
 refine c_seq ?_
 refine c_drawH mixed rfl ?_
 refine dM 0 rfl rfl ?_
 refine dN 1 rfl rfl ?_
 refine dV 2 rfl (y_fieldAddr fo_46_1 rfl) ?_
 refine dV 3 rfl (y_load1 ld_44 rfl m0 rfl) ?_
 refine dM 4 rfl rfl ?_
 refine dV 5 rfl (y_indexFv (j := s.length) es_44 rfl rfl (by rw [List.length_append, List.length_singleton]; omega)) ?_
 refine dV 6 rfl (y_load1 ld_41 rfl m1 (fv_at last_at)) ?_
 refine dV 7 rfl (y_convFI cv_41_3 rfl (RF_F oq.lt) (by have := tq.1; show (-9223372036854775808 : Int) ≤ _; omega) (by have := tq.2; show _ ≤ (9223372036854775807 : Int); omega)) ?_
 refine dM 8 rfl rfl ?_
 refine dV 9 rfl (y_len sl_23 rfl) ?_
 refine d_ready (i := 10) (rs := []) (by kernel_rfl) (.cons .here (.cons .here .refl)) (all_one ?_)
 refine o_call rfl (no_guard rfl) ok_20 rfl rfl (out_keep (fun w1 => f20_any w1 lst.length hl3)) ?_
 intro _ _
 refine dV 11 rfl (y_bin rfl rfl rfl (fit64 (by omega) (by omega))) ?_
 refine dV 12 rfl (y_assign rfl) ?_
 refine d_end (by kernel_rfl) (.cons .here (.cons .here .refl)) ?_
 refine q_then ?_
 refine c_seq ?_
 refine c_drawH mixed rfl ?_
 refine dM 0 rfl rfl ?_
 refine dN 1 rfl rfl ?_
 refine dV 2 rfl (y_fieldAddr fo_46_1 rfl) ?_
 refine dV 3 rfl (y_load1 ld_44 rfl m0 rfl) ?_
 refine dM 4 rfl rfl ?_
 refine dV 5 rfl (y_indexFv (j := s.length) es_44 rfl rfl (by rw [List.length_append, List.length_singleton]; omega)) ?_
 refine dV 6 rfl (y_load1 ld_41 rfl m1 (fv_at last_at)) ?_
 refine dV 7 rfl (y_convFI cv_41_3 rfl (RF_F oq.lt) (by have := tq.1; show (-9223372036854775808 : Int) ≤ _; omega) (by have := tq.2; show _ ≤ (9223372036854775807 : Int); omega)) ?_
 refine dV 8 rfl (y_convIF cf_3_41 rfl (by omega)) ?_
 refine dM 9 rfl rfl ?_
 refine dN 10 rfl rfl ?_
 refine dV 11 rfl (y_fieldAddr fo_46_1 rfl) ?_
 refine dV 12 rfl (y_load1 ld_44 rfl m0 rfl) ?_
 refine dM 13 rfl rfl ?_
 refine dV 14 rfl (y_indexFv (j := s.length) es_44 rfl rfl (by rw [List.length_append, List.length_singleton]; omega)) ?_
 refine dV 15 rfl (y_load1 ld_41 rfl m1 (fv_at last_at)) ?_
 refine dV 16 rfl (y_fcmp rfl rfl (order_RF (RF_F (q := q.tdiv 65536 * 65536) (by omega)) (RF_F oq.lt)) (cmp_eq _ _)) ?_
 refine dM 17 rfl rfl ?_
 refine d_split (t := 54) rfl (fun hs54 => ?_) (fun hs54 => ?_)
 ·refine d_val (i := 18) rfl (by kernel_rfl) (by kernel_rfl) (by kernel_rfl) (y_move rfl) rfl (is_wanted rfl rfl rfl) rfl (fun _ _ _ h => h) ?_
  refine d_val (i := 19) rfl (by kernel_rfl) (by kernel_rfl) (by kernel_rfl) (y_bin rfl rfl rfl rfl) rfl (is_wanted rfl rfl rfl) rfl (fun _ _ _ h => h) ?_
  refine dV 20 rfl (y_pick rfl rfl rfl) ?_
  refine dM 21 rfl rfl ?_
  refine d_split (t := 58) rfl (fun hs58 => ?_) (fun hs58 => ?_)
  ·refine d_val (i := 22) rfl (by kernel_rfl) (by kernel_rfl) (by kernel_rfl) (y_move rfl) rfl (is_wanted rfl rfl rfl) rfl (fun _ _ _ h => h) ?_
   refine d_val (i := 23) rfl (by kernel_rfl) (by kernel_rfl) (by kernel_rfl) (y_move rfl) rfl (is_wanted rfl rfl rfl) rfl (fun _ _ _ h => h) ?_
   refine d_val (i := 24) rfl (by kernel_rfl) (by kernel_rfl) (by kernel_rfl) (y_len sl_23 rfl) rfl (is_wanted rfl rfl rfl) rfl (fun _ _ _ h => h) ?_
   refine d_val (i := 25) rfl (by kernel_rfl) (by kernel_rfl) (by kernel_rfl) (y_bin rfl rfl rfl rfl) rfl (is_wanted rfl rfl rfl) rfl (fun _ _ _ h => h) ?_
   refine dV 26 rfl (y_pick rfl rfl rfl) ?_
   refine d_ready (i := 27) (rs := []) (by kernel_rfl) (.cons .here (.cons .here .refl)) (all_one ?_)
   refine o_callP hP rfl (no_guard rfl) ok_12 rfl rfl (out_keepP (fun w1 => f12_any w1 _)) ?_
   intro _ hn
   have hq65 : q.tdiv 65536 * 65536 = q := by simpa using hs54
   have hk0 : 0 ≤ q.tdiv 65536 + 107 := by simpa using hs58
   obtain ⟨j, hj⟩ := Int.eq_ofNat_of_zero_le hk0
   rw [hj] at hn ⊢
   have hjl : j < lst.length := by simp only [decide_eq_true_eq] at hn; omega
   obtain ⟨sub, hsub⟩ : ∃ sub, lst[j]? = some sub := ⟨_, List.getElem?_eq_getElem hjl⟩
   obtain ⟨⟨pL, rfl, hpb, hpS, Ai, ci, hcell, hRB, hci⟩, hu⟩ := hRL j sub hsub
   refine d_end (by kernel_rfl) (.cons .here (.cons .here .refl)) ?_
   refine qR ?_
   refine lM rfl ?_
   refine lM rfl ?_
   refine lN rfl ?_
   refine lV (y_fieldAddr fo_46_1 rfl) ?_
   refine lV (y_load1 ld_44 rfl m0 rfl) ?_
   refine lM rfl ?_
   refine lV (y_fvTo (fv := some (g, pre, sp, cap)) (xs := (s ++ [q]).map flv) (k := s.length) es_44 hfv (by rw [List.length_map]; rfl) rfl (by rw [List.length_map, List.length_append]; omega)) ?_
   refine lN rfl ?_
   refine lV (y_fieldAddr fo_46_1 rfl) ?_
   refine l_does rfl rfl (g_store1 (cs' := _ :: _ :: _ :: _ :: _ :: _ :: _ :: _) sz_44 rfl rfl (by first | rfl | exact fvV_cells _ _) rfl (by first | rfl | exact fvV_one _ _) rfl .here) ?_
   intro _ _
   refine nR ?_
   refine lM rfl ?_
   refine lN rfl ?_
   refine lV (y_fieldAddr fo_46_8 rfl) ?_
   refine lV (y_load1 ld_3 rfl m0 rfl) ?_
   refine lV (y_bin rfl rfl rfl (fitN (m := deep + 1) (by omega) (by omega))) ?_
   refine lN rfl ?_
   refine lV (y_fieldAddr fo_46_8 rfl) ?_
   refine l_does rfl rfl (g_store1 (cs' := _ :: _ :: _ :: _ :: _ :: _ :: _ :: _ :: _ :: _ :: _ :: _ :: _ :: _ :: _) sz_3 rfl rfl (by first | rfl | exact fvV_cells _ _) rfl (by first | rfl | exact fvV_one _ _) rfl .here) ?_
   intro _ _
   refine nQ ?_
   refine c_seq ?_
   refine c_perm (perm_back (fv_snoc (cap := cap))) ?_
   refine c_region ?_
   refine lM rfl ?_
   refine lM rfl ?_
   refine lM rfl ?_
   refine lV (y_indexAddr (j := j) es_23 rfl rfl hjl) ?_
   refine lV (y_oldLoad1 ld_22 rfl (by rw [block_add]; exact hpb) (by rw [block_add]; exact hpS) hcell) ?_
   refine l_callP hP ok_9 rfl rfl (out_allP (H1 := (bC, slV so p.out.length :: .float .f64 (F p.x) :: .float .f64 (F p.y) :: .bool p.o :: .float .f64 (F p.fx) :: .float .f64 (F p.fy) :: fvV (some (g, pre, flv q :: sp, cap)) s.length :: [.slice Alo los.length cLo, .slice Agl gls.length cGl, .int .i64 (stems : Nat), .bool masked, .bool begun, .bool ended, .int .i64 ((deep + 1) : Nat), .int .i64 (ops : Nat)], 46) :: (slH so (encS p.out) 34 ++ fvH (some (g, pre, flv q :: sp, cap)) (s.map flv) 41)) (fun w1 ha hb => hrun w1 bC p so (some (g, pre, flv q :: sp, cap)) s Alo Agl cLo cGl los gls stems masked begun ended ops Ai ci sub (hI.call rfl) hok (fvOk_snoc hfv) (hLo.into ha) (hGl.into ha) hlo hgl (hRB.into ha) hci hu hb)) ?_
   intro ⟨⟨p2, st2, stems2, masked2, begun2, ended2, deep2, ops2⟩, so2, sf2⟩ ⟨hR, hI2, hd2, hd9, hok2, hfv2⟩
   simp only at hR hI2 hd2 hd9 hok2 hfv2 ⊢
   subst hd2
   refine nG ?_
   refine lM rfl ?_
   refine lN rfl ?_
   refine lV (y_fieldAddr fo_46_8 rfl) ?_
   refine lV (y_load1 ld_3 rfl m0 rfl) ?_
   refine lV (y_bin rfl rfl rfl (fitN (m := deep) (by omega) (by omega))) ?_
   refine lN rfl ?_
   refine lV (y_fieldAddr fo_46_8 rfl) ?_
   refine l_does rfl rfl (g_store1 (cs' := _ :: _ :: _ :: _ :: _ :: _ :: _ :: _ :: _ :: _ :: _ :: _ :: _ :: _ :: _) sz_3 rfl rfl (by first | rfl | exact fvV_cells _ _) rfl (by first | rfl | exact fvV_one _ _) rfl .here) ?_
   intro _ _
   refine l_nil ?_
   exact body_ret (rs := []) rfl (vs := []) trivial (out_endP ((⟨p2, st2, stems2, masked2, begun2, ended2, deep, ops2⟩ : CSt), so2, sf2) ⟨⟨s, q.tdiv 65536, sub, _, by rw [hq65], hk0, by rw [← hlst, hj]; exact hsub, hd9, hR, rfl⟩, hI2.deep, rfl, hok2, hfv2⟩ rfl .refl) _ (.inl rfl)
  ·refine d_skip (i := 22) rfl (by kernel_rfl) (by kernel_rfl) (by kernel_rfl) rfl (is_not rfl rfl rfl rfl) rfl (fun _ _ _ h => h) ?_
   refine d_skip (i := 23) rfl (by kernel_rfl) (by kernel_rfl) (by kernel_rfl) rfl (is_not rfl rfl rfl rfl) rfl (fun _ _ _ h => h) ?_
   refine d_skip (i := 24) rfl (by kernel_rfl) (by kernel_rfl) (by kernel_rfl) rfl (is_not rfl rfl rfl rfl) rfl (fun _ _ _ h => h) ?_
   refine d_skip (i := 25) rfl (by kernel_rfl) (by kernel_rfl) (by kernel_rfl) rfl (is_not rfl rfl rfl rfl) rfl (fun _ _ _ h => h) ?_
   refine dV 26 rfl (y_pick rfl rfl rfl) ?_
   refine d_ready (i := 27) (rs := []) (by kernel_rfl) (.cons .here (.cons .here .refl)) (all_one ?_)
   refine o_callP hP rfl (no_guard rfl) ok_12 rfl rfl (out_keepP (fun w1 => f12_any w1 _)) ?_
   intro _ hn
   cases hn
 ·refine d_skip (i := 18) rfl (by kernel_rfl) (by kernel_rfl) (by kernel_rfl) rfl (is_not rfl rfl rfl rfl) rfl (fun _ _ _ h => h) ?_
  refine d_skip (i := 19) rfl (by kernel_rfl) (by kernel_rfl) (by kernel_rfl) rfl (is_not rfl rfl rfl rfl) rfl (fun _ _ _ h => h) ?_
  refine dV 20 rfl (y_pick rfl rfl rfl) ?_
  refine dM 21 rfl rfl ?_
  refine d_skip (i := 22) rfl (by kernel_rfl) (by kernel_rfl) (by kernel_rfl) rfl (is_not rfl rfl rfl rfl) rfl (fun _ _ _ h => h) ?_
  refine d_skip (i := 23) rfl (by kernel_rfl) (by kernel_rfl) (by kernel_rfl) rfl (is_not rfl rfl rfl rfl) rfl (fun _ _ _ h => h) ?_
  refine d_skip (i := 24) rfl (by kernel_rfl) (by kernel_rfl) (by kernel_rfl) rfl (is_not rfl rfl rfl rfl) rfl (fun _ _ _ h => h) ?_
  refine d_skip (i := 25) rfl (by kernel_rfl) (by kernel_rfl) (by kernel_rfl) rfl (is_not rfl rfl rfl rfl) rfl (fun _ _ _ h => h) ?_
  refine dV 26 rfl (y_pick rfl rfl rfl) ?_
  refine d_ready (i := 27) (rs := []) (by kernel_rfl) (.cons .here (.cons .here .refl)) (all_one ?_)
  refine o_callP hP rfl (no_guard rfl) ok_12 rfl rfl (out_keepP (fun w1 => f12_any w1 _)) ?_
  intro _ hn
  cases hn
theorem map_snoc {st : List Int} {q : Int} : st.map flv ++ [Value.float .f64 (F q)] = (st ++ [q]).map flv := by rw [List.map_append]; rfl
theorem OpR.mono {v : Nat} {c c1 : CSt} (h : OpR v c c1) : c1.ops = c.ops := by cases h <;> rfl
theorem RunR.mono {los gls : List (List Nat)} {c c2 : CSt} {b : List Nat} (h : RunR los gls c b c2) : c.ops ≤ c2.ops := by
  induction h with
  | ended _ => exact Nat.le_refl _
  | num _ _ _ _ _ _ ih => exact Nat.le_trans (Nat.le_succ _) ih
  | ret _ _ _ => exact Nat.le_succ _
  | call _ _ _ _ _ _ _ _ _ ih1 ih2 => exact Nat.le_trans (Nat.le_trans (Nat.le_succ _) ih1) ih2
  | flex _ _ _ _ _ ih => exact Nat.le_trans (Nat.le_succ _) ih
  | mask _ _ _ _ _ _ _ ih => exact Nat.le_trans (Nat.le_succ _) ih
  | op _ _ _ _ _ _ _ _ _ ho _ ih => exact Nat.le_trans (Nat.le_trans (Nat.le_succ _) (Nat.le_of_eq ho.mono.symm)) ih
set_option maxHeartbeats 16000000 in
theorem run_of_call {deep : Nat} (hcall : deep < 9 → CallOk deep) : RunOk deep := by
 intro w bC p0 so0 sf0 st0 Alo Agl cLo cGl los gls stems0 masked0 begun0 ended0 ops0 A0 cl0 b0 hI0 hok0 hfv0 hLo hGl hlo hgl hRB0 hcl0 hu0 hw
 have hP : Pq PO (bodyPost Tryz.prog Tryz.f9 (OutP w (((bC, slV so0 p0.out.length :: .float .f64 (F p0.x) :: .float .f64 (F p0.y) :: .bool p0.o :: .float .f64 (F p0.fx) :: .float .f64 (F p0.fy) :: fvV sf0 st0.length :: [.slice Alo los.length cLo, .slice Agl gls.length cGl, .int .i64 (stems0 : Nat), .bool masked0, .bool begun0, .bool ended0, .int .i64 (deep : Nat), .int .i64 (ops0 : Nat)], 46) :: (slH so0 (encS p0.out) 34 ++ fvH sf0 (st0.map flv) 41)).map (·.1)) (fun z : CSt × Sv × Fv => RunR los gls ⟨p0, st0, stems0, masked0, begun0, ended0, deep, ops0⟩ b0 z.1 ∧ Inv z.1 ∧ z.1.deep = deep ∧ deep < 9 ∧ slOk z.2.1 z.1.p.out.length 7 (encS z.1.p.out) ∧ fvOk z.2.2 (z.1.st.map flv)) (fun _ => .tuple #[]) (fun z => (bC, slV z.2.1 z.1.p.out.length :: .float .f64 (F z.1.p.x) :: .float .f64 (F z.1.p.y) :: .bool z.1.p.o :: .float .f64 (F z.1.p.fx) :: .float .f64 (F z.1.p.fy) :: fvV z.2.2 z.1.st.length :: [.slice Alo los.length cLo, .slice Agl gls.length cGl, .int .i64 (z.1.stems : Nat), .bool z.1.masked, .bool z.1.begun, .bool z.1.ended, .int .i64 (z.1.deep : Nat), .int .i64 (z.1.ops : Nat)], 46) :: (slH z.2.1 (encS z.1.p.out) 34 ++ fvH z.2.2 (z.1.st.map flv) 41)) PO)) 149 [] w (((bC, slV so0 p0.out.length :: .float .f64 (F p0.x) :: .float .f64 (F p0.y) :: .bool p0.o :: .float .f64 (F p0.fx) :: .float .f64 (F p0.fy) :: fvV sf0 st0.length :: [.slice Alo los.length cLo, .slice Agl gls.length cGl, .int .i64 (stems0 : Nat), .bool masked0, .bool begun0, .bool ended0, .int .i64 (deep : Nat), .int .i64 (ops0 : Nat)], 46) :: (slH so0 (encS p0.out) 34 ++ fvH sf0 (st0.map flv) 41)).map (·.1)) := bodyP_out
 refine enter (n := 149) Tryz.func9 rfl rfl rfl hw ?_
 refine cR ?_
 refine lM rfl ?_
 refine lN rfl ?_
 refine lV (y_fieldAddr fo_46_8 rfl) ?_
 refine lV (y_load1 ld_3 rfl m0 rfl) ?_
 refine lB rfl rfl rfl rfl ?_
 refine l_callP hP ok_12 rfl rfl (out_keepP (fun w1 => f12_any w1 _)) ?_
 intro _ hn
 have hd9 : deep < 9 := by simp only [decide_eq_true_eq] at hn; omega
 refine nQ ?_
 refine c_seq ?_
 refine c_block ?_
 refine c_loop (ι := CSt × List Nat × Option Addr × Nat × Sv × Fv) (φ := fun z => (∀ c', RunR los gls z.1 z.2.1 c' → RunR los gls ⟨p0, st0, stems0, masked0, begun0, ended0, deep, ops0⟩ b0 c') ∧ Inv z.1 ∧ z.1.deep = deep ∧ RdB w (((bC, slV so0 p0.out.length :: .float .f64 (F p0.x) :: .float .f64 (F p0.y) :: .bool p0.o :: .float .f64 (F p0.fx) :: .float .f64 (F p0.fy) :: fvV sf0 st0.length :: [.slice Alo los.length cLo, .slice Agl gls.length cGl, .int .i64 (stems0 : Nat), .bool masked0, .bool begun0, .bool ended0, .int .i64 (deep : Nat), .int .i64 (ops0 : Nat)], 46) :: (slH so0 (encS p0.out) 34 ++ fvH sf0 (st0.map flv) 41)).map (·.1)) z.2.2.1 z.2.1 ∧ z.2.1.length ≤ z.2.2.2.1 ∧ (∀ u ∈ z.2.1, u < 256) ∧ slOk z.2.2.2.2.1 z.1.p.out.length 7 (encS z.1.p.out) ∧ fvOk z.2.2.2.2.2 (z.1.st.map flv)) (L' := fun z => [(0, .pointer (some ⟨bC, 0, none⟩)), (1, .slice z.2.2.1 z.2.1.length z.2.2.2.1)]) (H' := fun z => (bC, slV z.2.2.2.2.1 z.1.p.out.length :: .float .f64 (F z.1.p.x) :: .float .f64 (F z.1.p.y) :: .bool z.1.p.o :: .float .f64 (F z.1.p.fx) :: .float .f64 (F z.1.p.fy) :: fvV z.2.2.2.2.2 z.1.st.length :: [.slice Alo los.length cLo, .slice Agl gls.length cGl, .int .i64 (z.1.stems : Nat), .bool z.1.masked, .bool z.1.begun, .bool z.1.ended, .int .i64 (z.1.deep : Nat), .int .i64 (z.1.ops : Nat)], 46) :: (slH z.2.2.2.2.1 (encS z.1.p.out) 34 ++ fvH z.2.2.2.2.2 (z.1.st.map flv) 41)) (fun z => 2000 - z.1.ops) ((⟨p0, st0, stems0, masked0, begun0, ended0, deep, ops0⟩ : CSt), b0, A0, cl0, so0, sf0) ⟨fun _ h => h, hI0, rfl, hRB0, hcl0, hu0, hok0, hfv0⟩ ⟨rfl, rfl, trivial⟩ (.cons .here .refl) ?_
 intro ⟨⟨p, st, stems, masked, begun, ended, deep1, ops⟩, b, A, cl, so, sf⟩ ⟨hK, hI, hd1, hRB, hcl, hu, hok, hfv⟩
 simp only at hK hI hd1 hRB hcl hu hok hfv ⊢
 subst hd1
 have hI48 := hI.len
 have hIo := hI.ops
 have hIq := hI.opd
 have hIb := hI.bd
 have hIout := hI.out
 have hIs := hI.stems
 simp only at hI48 hIo hIq hIb hIout hIs
 have hnil := fvOk.nil hfv
 rw [List.length_map] at hnil
 refine c_seq ?_
 refine cR ?_
 refine lM rfl ?_
 refine lV (y_len sl_22 rfl) ?_
 refine lB rfl rfl rfl rfl ?_
 refine lM rfl ?_
 refine l_split (t := 16) rfl rfl (fun hs16 => ?_) (fun hs16 => ?_)
 ·obtain ⟨v, r, rfl⟩ := List.exists_cons_of_length_pos (show 0 < b.length by simp only [decide_eq_true_eq] at hs16; omega)
  have hv := hu v (by simp)
  obtain ⟨pb, rfl, hpb, hpS, hpc⟩ := hRB.ptr
  refine l_want rfl rfl ?_
  refine lM rfl ?_
  refine l_want rfl rfl ?_
  refine lN rfl ?_
  refine l_want rfl rfl ?_
  refine lV (y_fieldAddr fo_46_7 rfl) ?_
  refine l_want rfl rfl ?_
  refine lV (y_load1 ld_4 rfl m0 rfl) ?_
  refine l_want rfl rfl ?_
  refine lV (y_not rfl) ?_
  refine lV (y_pick rfl rfl rfl) ?_
  refine nQ ?_
  refine c_cond rfl (fun hc22 => ?_) (fun hc22 => ?_)
  ·have hen : ended = false := by simpa using hc22
   subst hen
   refine kQ ?_
   refine c_block ?_
   refine cR ?_
   refine lM rfl ?_
   refine lN rfl ?_
   refine lV (y_fieldAddr fo_46_9 rfl) ?_
   refine lV (y_load1 ld_3 rfl m0 rfl) ?_
   refine lV (y_bin rfl rfl rfl (fitN (m := ops + 1) (by omega) (by omega))) ?_
   refine lN rfl ?_
   refine lV (y_fieldAddr fo_46_9 rfl) ?_
   refine l_does rfl rfl (g_store1 (cs' := _ :: _ :: _ :: _ :: _ :: _ :: _ :: _ :: _ :: _ :: _ :: _ :: _ :: _ :: _ :: _) sz_3 rfl rfl (by first | rfl | exact fvV_cells _ _) rfl (by first | rfl | exact fvV_one _ _) rfl .here) ?_
   intro _ _
   refine nR ?_
   refine lM rfl ?_
   refine lN rfl ?_
   refine lV (y_fieldAddr fo_46_9 rfl) ?_
   refine lV (y_load1 ld_3 rfl m0 rfl) ?_
   refine lB rfl rfl rfl rfl ?_
   refine l_callP hP ok_12 rfl rfl (out_keepP (fun w1 => f12_any w1 _)) ?_
   intro _ hn
   have ho : ops + 1 < 2000 := by simp only [decide_eq_true_eq] at hn; omega
   have hIt := hI.tick ho
   refine nR ?_
   refine lM rfl ?_
   refine lV (y_indexAddr (j := 0) es_22 rfl rfl (by simp)) ?_
   refine lV (y_oldLoad1 ld_5 rfl (by rw [block_add]; exact hpb) (by rw [block_add]; exact hpS) (hpc 0 v rfl)) ?_
   refine lA rfl ?_
   refine nQ ?_
   refine c_seq ?_
   refine cR ?_
   refine lM rfl ?_
   refine lB rfl rfl rfl rfl ?_
   refine lM rfl ?_
   refine l_split (t := 41) rfl rfl (fun hs41 => ?_) (fun hs41 => ?_)
   ·have hnum : isNum v = true := by simp only [decide_eq_true_eq] at hs41; unfold isNum; rw [decide_eq_true (by omega)]; rfl
    refine l_not rfl rfl rfl rfl ?_
    refine l_not rfl rfl rfl rfl ?_
    refine lV (y_pick rfl rfl rfl) ?_
    refine nQ ?_
    refine c_true rfl rfl ?_
    refine cR ?_
    refine lM rfl ?_
    refine l_callP hP ok_13 rfl rfl (out_keepPH (fun w1 hw1 => f13_any w1 cl v r _ hu (hRB.empty hw1))) ?_
    intro ⟨q, nb⟩ hnb
    simp only at hnb ⊢
    obtain ⟨hnb1, hnb2, oq⟩ := numB_all hnb hu
    simp only at hnb1 hnb2 oq
    refine lM rfl ?_
    refine lV (y_extract rfl rfl) ?_
    refine lV (y_extract rfl rfl) ?_
    refine lA rfl ?_
    refine lA rfl ?_
    refine nR ?_
    refine lM rfl ?_
    refine lM rfl ?_
    refine lN rfl ?_
    refine lV (y_fieldAddr fo_46_1 rfl) ?_
    refine lV (y_load1 ld_44 rfl m0 rfl) ?_
    refine lM rfl ?_
    refine l_gives rfl rfl (g_buildSlice (cs := [_]) sl_44 sz_41 ze_41 rfl rfl rfl rfl (by simp [Value.cells]) rfl rfl) rfl ?_
    intro b56 hb56
    refine l_gives rfl rfl (g_appendF (by_ := 8) (fv := sf) (xs := st.map flv) (u := .float .f64 (F q)) (Hr := _ :: _ :: slH so (encS p.out) 34) sl_44 inf_41 rfl rfl rfl rfl (by rw [List.length_map]; rfl) rfl hfv (List.perm_append_comm (l₁ := _ :: _ :: slH so (encS p.out) 34)) m0 rfl (by rw [List.length_map]; unfold maxLen; omega) (by rw [List.length_map]; omega)) rfl ?_
    intro sf2 hfv2
    rw [map_snoc] at hfv2 ⊢
    rw [List.length_map]
    refine l_perm (List.perm_append_comm (l₂ := _ :: _ :: slH so (encS p.out) 34)) ?_
    refine lN rfl ?_
    refine lV (y_fieldAddr fo_46_1 rfl) ?_
    refine l_does rfl rfl (g_store1 (cs' := _ :: _ :: _ :: _ :: _ :: _ :: _ :: _) sz_44 rfl rfl (by first | rfl | exact fvV_cells _ _) rfl (by first | rfl | exact fvV_one _ _) rfl (.there .here)) ?_
    intro _ _
    refine nR ?_
    refine lM rfl ?_
    refine lN rfl ?_
    refine lV (y_fieldAddr fo_46_1 rfl) ?_
    refine lV (y_load1 ld_44 rfl m1 rfl) ?_
    refine lV (y_lenFv sl_44 rfl (fun h => by have := fvOk.nil hfv2 h; rwa [List.length_map] at this)) ?_
    refine lB rfl rfl rfl rfl ?_
    refine l_callP hP ok_12 rfl rfl (out_keepP (fun w1 => f12_any w1 _)) ?_
    intro _ hn
    have hl48 : st.length + 1 ≤ 48 := by simp only [decide_eq_true_eq, List.length_append, List.length_singleton] at hn; omega
    refine nR ?_
    refine lM rfl ?_
    refine lM rfl ?_
    refine lV (y_sliceLo (i := nb) es_22 rfl rfl hnb2 hcl) ?_
    refine lA rfl ?_
    refine nQ ?_
    refine c_exit ?_
    refine q_then_exit ?_
    refine q_block_exit ?_
    exact q_rnd ((⟨p, st ++ [q], stems, masked, begun, false, deep1, ops + 1⟩ : CSt), (v :: r).drop nb, some _, cl - nb, so, sf2) ⟨fun c' h => hK c' (.num rfl ho hnum hnb hl48 h), hI.num ho hl48 oq, rfl, hRB.drop hnb2 hcl, (by rw [List.length_drop]; exact Nat.sub_le_sub_right hcl _), (fun x hx => hu x (List.mem_of_mem_drop hx)), hok, hfv2⟩ (by simp only; omega) ⟨rfl, (by rw [List.length_drop]; rfl), trivial⟩ (.cons (.there .here) (.skip .refl))
   ·refine l_want rfl rfl ?_
    refine lM rfl ?_
    refine l_want rfl rfl ?_
    refine lB rfl rfl rfl rfl ?_
    refine lV (y_pick rfl rfl rfl) ?_
    refine nQ ?_
    refine c_cond rfl (fun hc44 => ?_) (fun hc44 => ?_)
    ·have hnum : isNum v = true := by simp only [beq_iff_eq] at hc44; unfold isNum; rw [show v = 28 by omega]; rfl
     refine cR ?_
     refine lM rfl ?_
     refine l_callP hP ok_13 rfl rfl (out_keepPH (fun w1 hw1 => f13_any w1 cl v r _ hu (hRB.empty hw1))) ?_
     intro ⟨q, nb⟩ hnb
     simp only at hnb ⊢
     obtain ⟨hnb1, hnb2, oq⟩ := numB_all hnb hu
     simp only at hnb1 hnb2 oq
     refine lM rfl ?_
     refine lV (y_extract rfl rfl) ?_
     refine lV (y_extract rfl rfl) ?_
     refine lA rfl ?_
     refine lA rfl ?_
     refine nR ?_
     refine lM rfl ?_
     refine lM rfl ?_
     refine lN rfl ?_
     refine lV (y_fieldAddr fo_46_1 rfl) ?_
     refine lV (y_load1 ld_44 rfl m0 rfl) ?_
     refine lM rfl ?_
     refine l_gives rfl rfl (g_buildSlice (cs := [_]) sl_44 sz_41 ze_41 rfl rfl rfl rfl (by simp [Value.cells]) rfl rfl) rfl ?_
     intro b56 hb56
     refine l_gives rfl rfl (g_appendF (by_ := 8) (fv := sf) (xs := st.map flv) (u := .float .f64 (F q)) (Hr := _ :: _ :: slH so (encS p.out) 34) sl_44 inf_41 rfl rfl rfl rfl (by rw [List.length_map]; rfl) rfl hfv (List.perm_append_comm (l₁ := _ :: _ :: slH so (encS p.out) 34)) m0 rfl (by rw [List.length_map]; unfold maxLen; omega) (by rw [List.length_map]; omega)) rfl ?_
     intro sf2 hfv2
     rw [map_snoc] at hfv2 ⊢
     rw [List.length_map]
     refine l_perm (List.perm_append_comm (l₂ := _ :: _ :: slH so (encS p.out) 34)) ?_
     refine lN rfl ?_
     refine lV (y_fieldAddr fo_46_1 rfl) ?_
     refine l_does rfl rfl (g_store1 (cs' := _ :: _ :: _ :: _ :: _ :: _ :: _ :: _) sz_44 rfl rfl (by first | rfl | exact fvV_cells _ _) rfl (by first | rfl | exact fvV_one _ _) rfl (.there .here)) ?_
     intro _ _
     refine nR ?_
     refine lM rfl ?_
     refine lN rfl ?_
     refine lV (y_fieldAddr fo_46_1 rfl) ?_
     refine lV (y_load1 ld_44 rfl m1 rfl) ?_
     refine lV (y_lenFv sl_44 rfl (fun h => by have := fvOk.nil hfv2 h; rwa [List.length_map] at this)) ?_
     refine lB rfl rfl rfl rfl ?_
     refine l_callP hP ok_12 rfl rfl (out_keepP (fun w1 => f12_any w1 _)) ?_
     intro _ hn
     have hl48 : st.length + 1 ≤ 48 := by simp only [decide_eq_true_eq, List.length_append, List.length_singleton] at hn; omega
     refine nR ?_
     refine lM rfl ?_
     refine lM rfl ?_
     refine lV (y_sliceLo (i := nb) es_22 rfl rfl hnb2 hcl) ?_
     refine lA rfl ?_
     refine nQ ?_
     refine c_exit ?_
     refine q_then_exit ?_
     refine q_block_exit ?_
     exact q_rnd ((⟨p, st ++ [q], stems, masked, begun, false, deep1, ops + 1⟩ : CSt), (v :: r).drop nb, some _, cl - nb, so, sf2) ⟨fun c' h => hK c' (.num rfl ho hnum hnb hl48 h), hI.num ho hl48 oq, rfl, hRB.drop hnb2 hcl, (by rw [List.length_drop]; exact Nat.sub_le_sub_right hcl _), (fun x hx => hu x (List.mem_of_mem_drop hx)), hok, hfv2⟩ (by simp only; omega) ⟨rfl, (by rw [List.length_drop]; rfl), trivial⟩ (.cons (.there .here) (.skip .refl))
    ·have hnum : isNum v = false := by simp only [beq_eq_false_iff_ne] at hc44; simp only [decide_eq_false_iff_not] at hs41; unfold isNum; rw [decide_eq_false (by omega), Bool.false_or]; simp only [beq_eq_false_iff_ne]; omega
     refine kR ?_
     refine lM rfl ?_
     refine lV (y_sliceLoM (i := 1) (m' := r.length) es_22 rfl rfl (by simp) hcl (by simp)) ?_
     have hRr := hRB.drop (k := 1) (by simp) hcl
     have hcr : r.length ≤ cl - 1 := by simp only [List.length_cons] at hcl; omega
     have hur : ∀ u ∈ r, u < 256 := fun x hx => hu x (List.mem_cons_of_mem _ hx)
     simp only [List.drop_succ_cons, List.drop_zero] at hRr
     generalize hpr : (if cl = 1 then pb else pb.add (1 * 1)) = pr at hRr ⊢
     generalize hcr0 : cl - 1 = cr at hcr ⊢
     refine lA rfl ?_
     refine nR ?_
     refine lM rfl ?_
     refine nQ ?_
     refine c_block ?_
     refine c_seq ?_
     refine cR ?_
     refine lB rfl rfl rfl rfl ?_
     refine lA rfl ?_
     refine nQ ?_
     refine c_cond rfl (fun hc76 => ?_) (fun hc76 => ?_)
     ·have hvv : v = 10 := by simp only [beq_iff_eq] at hc76; omega
      subst hvv
      refine kQ ?_
      refine c_true rfl rfl ?_
      refine c_region ?_
      refine lM rfl ?_
      refine lM rfl ?_
      refine lB rfl rfl rfl rfl ?_
      refine l_callP hP ok_14 rfl rfl (out_allP (H1 := (bC, slV so p.out.length :: .float .f64 (F p.x) :: .float .f64 (F p.y) :: .bool p.o :: .float .f64 (F p.fx) :: .float .f64 (F p.fy) :: fvV sf st.length :: [.slice Alo los.length cLo, .slice Agl gls.length cGl, .int .i64 (stems : Nat), .bool masked, .bool begun, .bool false, .int .i64 (deep1 : Nat), .int .i64 ((ops + 1) : Nat)], 46) :: (slH so (encS p.out) 34 ++ fvH sf (st.map flv) 41)) (fun w1 ha hb => hcall hd9 w1 bC p so sf st Alo Agl cLo cGl los gls stems masked begun false (ops + 1) true hIt hok hfv (hLo.into ha) (hGl.into ha) hlo hgl hb)) ?_
      intro ⟨⟨p2, st2, stems2, masked2, begun2, ended2, deep2, ops2⟩, so2, sf2⟩ ⟨hC, hI2, hd2, hok2, hfv2⟩
      simp only at hC hI2 hd2 hok2 hfv2 ⊢
      subst hd2
      obtain ⟨s, k, sub, c1, e1, e2, e3, e4, e5, e6⟩ := hC
      have hops := e5.mono
      have hops2 : ops2 = c1.ops := congrArg CSt.ops e6
      simp only at hops
      have hI2o := hI2.ops
      simp only at hI2o
      refine l_nil ?_
      refine q_block ?_
      refine q_block ?_
      exact q_rnd ((⟨p2, st2, stems2, masked2, begun2, ended2, deep2, ops2⟩ : CSt), r, some _, cr, so2, sf2) ⟨fun c' h => hK c' (.call rfl ho (.inl rfl) e1 e2 e3 e4 e5 (e6 ▸ h)), hI2, rfl, hRr, hcr, hur, hok2, hfv2⟩ (by simp only; omega) ⟨rfl, rfl, trivial⟩ (.cons .here .refl)
     ·have hne10 : v ≠ 10 := by simp only [beq_eq_false_iff_ne] at hc76; omega
      refine c_region ?_
      refine lB rfl rfl rfl rfl ?_
      refine lA rfl ?_
      refine nQ ?_
      refine c_cond rfl (fun hc76 => ?_) (fun hc76 => ?_)
      ·have hvv : v = 29 := by simp only [beq_iff_eq] at hc76; omega
       subst hvv
       refine c_region ?_
       refine lM rfl ?_
       refine lM rfl ?_
       refine lB rfl rfl rfl rfl ?_
       refine l_callP hP ok_14 rfl rfl (out_allP (H1 := (bC, slV so p.out.length :: .float .f64 (F p.x) :: .float .f64 (F p.y) :: .bool p.o :: .float .f64 (F p.fx) :: .float .f64 (F p.fy) :: fvV sf st.length :: [.slice Alo los.length cLo, .slice Agl gls.length cGl, .int .i64 (stems : Nat), .bool masked, .bool begun, .bool false, .int .i64 (deep1 : Nat), .int .i64 ((ops + 1) : Nat)], 46) :: (slH so (encS p.out) 34 ++ fvH sf (st.map flv) 41)) (fun w1 ha hb => hcall hd9 w1 bC p so sf st Alo Agl cLo cGl los gls stems masked begun false (ops + 1) false hIt hok hfv (hLo.into ha) (hGl.into ha) hlo hgl hb)) ?_
       intro ⟨⟨p2, st2, stems2, masked2, begun2, ended2, deep2, ops2⟩, so2, sf2⟩ ⟨hC, hI2, hd2, hok2, hfv2⟩
       simp only at hC hI2 hd2 hok2 hfv2 ⊢
       subst hd2
       obtain ⟨s, k, sub, c1, e1, e2, e3, e4, e5, e6⟩ := hC
       have hops := e5.mono
       have hops2 : ops2 = c1.ops := congrArg CSt.ops e6
       simp only at hops
       have hI2o := hI2.ops
       simp only at hI2o
       refine l_nil ?_
       refine q_block ?_
       refine q_block ?_
       exact q_rnd ((⟨p2, st2, stems2, masked2, begun2, ended2, deep2, ops2⟩ : CSt), r, some _, cr, so2, sf2) ⟨fun c' h => hK c' (.call rfl ho (.inr rfl) e1 e2 e3 e4 e5 (e6 ▸ h)), hI2, rfl, hRr, hcr, hur, hok2, hfv2⟩ (by simp only; omega) ⟨rfl, rfl, trivial⟩ (.cons .here .refl)
      ·have hne29 : v ≠ 29 := by simp only [beq_eq_false_iff_ne] at hc76; omega
       refine cR ?_
       refine lB rfl rfl rfl rfl ?_
       refine lA rfl ?_
       refine nQ ?_
       refine c_cond rfl (fun hc83 => ?_) (fun hc83 => ?_)
       ·have hvv : v = 11 := by simp only [beq_iff_eq] at hc83; omega
        subst hvv
        refine cR ?_
        refine lM rfl ?_
        refine lN rfl ?_
        refine lV (y_fieldAddr fo_46_8 rfl) ?_
        refine lV (y_load1 ld_3 rfl m0 rfl) ?_
        refine lB rfl rfl rfl rfl ?_
        refine l_callP hP ok_12 rfl rfl (out_keepP (fun w1 => f12_any w1 _)) ?_
        intro _ hn
        have hd0 : 0 < deep1 := by simp only [decide_eq_true_eq] at hn; omega
        refine nQ ?_
        refine c_ret ?_
        refine q_block_ret ?_
        refine q_block_ret ?_
        refine q_rnd_ret ?_
        refine q_block_ret ?_
        refine q_then_ret ?_
        exact body_ret (rs := []) rfl (vs := []) trivial (out_endP ((⟨p, st, stems, masked, begun, false, deep1, ops + 1⟩ : CSt), so, sf) ⟨hK _ (.ret rfl ho hd0), hIt, rfl, hd9, hok, hfv⟩ rfl .refl) _ (.inr rfl)
       ·have hne11 : v ≠ 11 := by simp only [beq_eq_false_iff_ne] at hc83; omega
        refine cR ?_
        refine lB rfl rfl rfl rfl ?_
        refine lA rfl ?_
        refine nQ ?_
        refine c_cond rfl (fun hc91 => ?_) (fun hc91 => ?_)
        ·have hvv : v = 12 := by simp only [beq_iff_eq] at hc91; omega
         subst hvv
         refine cR ?_
         refine lM rfl ?_
         refine lV (y_len sl_22 rfl) ?_
         refine lB rfl rfl rfl rfl ?_
         refine l_callP hP ok_12 rfl rfl (out_keepP (fun w1 => f12_any w1 _)) ?_
         intro _ hn
         obtain ⟨u, r2, rfl⟩ := List.exists_cons_of_length_pos (show 0 < r.length by simp only [decide_eq_true_eq] at hn; omega)
         obtain ⟨pr2, hpr2, hpbr, hpSr, hpcr⟩ := hRr.ptr
         injection hpr2 with hpr2
         subst hpr2
         refine nR ?_
         refine lM rfl ?_
         refine lM rfl ?_
         refine lV (y_indexAddr (j := 0) es_22 rfl rfl (by simp)) ?_
         refine lV (y_oldLoad1 ld_5 rfl (by rw [block_add]; exact hpbr) (by rw [block_add]; exact hpSr) (hpcr 0 u rfl)) ?_
         refine l_callP hP ok_15 rfl rfl (out_allP (H1 := (bC, slV so p.out.length :: .float .f64 (F p.x) :: .float .f64 (F p.y) :: .bool p.o :: .float .f64 (F p.fx) :: .float .f64 (F p.fy) :: fvV sf st.length :: [.slice Alo los.length cLo, .slice Agl gls.length cGl, .int .i64 (stems : Nat), .bool masked, .bool begun, .bool false, .int .i64 (deep1 : Nat), .int .i64 ((ops + 1) : Nat)], 46) :: (slH so (encS p.out) 34 ++ fvH sf (st.map flv) 41)) (fun w1 ha hb => f15_any w1 bC (ops * 128849018880) u p so sf [.slice Alo los.length cLo, .slice Agl gls.length cGl, .int .i64 (stems : Nat), .bool masked, .bool begun, .bool false, .int .i64 (deep1 : Nat), .int .i64 ((ops + 1) : Nat)] st hI48 hIq hIb (by omega) hok hfv (by omega) hb)) ?_
         intro ⟨p2, so2, sf2⟩ ⟨hfl, hop, hok2, hfv2⟩
         simp only at hfl hop hok2 hfv2 ⊢
         refine nG ?_
         refine lM rfl ?_
         refine lV (y_sliceLoM (i := 1) (m' := r2.length) es_22 rfl rfl (by simp) hcr (by simp)) ?_
         have hRB2 := hRr.drop (k := 1) (by simp) hcr
         simp only [List.drop_succ_cons, List.drop_zero] at hRB2
         refine lA rfl ?_
         refine l_nil ?_
         refine q_block ?_
         refine q_block ?_
         exact q_rnd ((⟨p2, [], stems, masked, begun, false, deep1, ops + 1⟩ : CSt), r2, some _, cr - 1, so2, sf2) ⟨fun c' h => hK c' (.flex rfl ho hop hfl h), hI.flex ho hfl, rfl, hRB2, (by show r2.length ≤ cr - 1; simp only [List.length_cons] at hcr; omega), (fun x hx => hur x (List.mem_cons_of_mem _ hx)), hok2, hfv2⟩ (by simp only; omega) ⟨rfl, rfl, trivial⟩ (.cons .here .refl)
        ·have hne12 : v ≠ 12 := by simp only [beq_eq_false_iff_ne] at hc91; omega
         refine c_seq ?_
         refine cR ?_
         refine lB rfl rfl rfl rfl ?_
         refine lA rfl ?_
         refine nQ ?_
         refine c_cond rfl (fun hc104 => ?_) (fun hc104 => ?_)
         ·have hvv : v = 19 := by simp only [beq_iff_eq] at hc104; omega
          subst hvv
          refine kQ ?_
          refine c_true rfl rfl ?_
          refine cR ?_
          refine lM rfl ?_
          refine lN rfl ?_
          refine lV (y_fieldAddr fo_46_5 rfl) ?_
          refine lV (y_load1 ld_4 rfl m0 rfl) ?_
          refine lV (y_not rfl) ?_
          refine lM rfl ?_
          refine l_split (t := 112) rfl rfl (fun hs112 => ?_) (fun hs112 => ?_)
          ·have hms : masked = false ∨ st = [] := .inl (by simpa using hs112)
           refine l_not rfl rfl rfl rfl ?_
           refine l_not rfl rfl rfl rfl ?_
           refine l_not rfl rfl rfl rfl ?_
           refine l_not rfl rfl rfl rfl ?_
           refine l_not rfl rfl rfl rfl ?_
           refine l_not rfl rfl rfl rfl ?_
           refine lV (y_pick rfl rfl rfl) ?_
           refine l_callP hP ok_12 rfl rfl (out_keepP (fun w1 => f12_any w1 _)) ?_
           intro _ hn
           refine nR ?_
           refine lM rfl ?_
           refine l_callP hP ok_16 rfl rfl (out_allP (H1 := (bC, slV so p.out.length :: .float .f64 (F p.x) :: .float .f64 (F p.y) :: .bool p.o :: .float .f64 (F p.fx) :: .float .f64 (F p.fy) :: fvV sf st.length :: [.slice Alo los.length cLo, .slice Agl gls.length cGl, .int .i64 (stems : Nat), .bool masked, .bool begun, .bool false, .int .i64 (deep1 : Nat), .int .i64 ((ops + 1) : Nat)], 46) :: (slH so (encS p.out) 34 ++ fvH sf (st.map flv) 41)) (fun w1 ha hb => f16_any w1 bC p so sf st _ _ stems masked begun false deep1 (ops + 1) hI48 (by omega) hfv hb)) ?_
           intro ⟨n2, sf2⟩ ⟨hn4, hn5, hfv2⟩
           simp only at hn4 hn5 hfv2 ⊢
           have hn48 : n2 ≤ 48 := by have := bareL_len (-1) begun st; omega
           refine nR ?_
           refine lM rfl ?_
           refine lN rfl ?_
           refine lV (y_fieldAddr fo_46_5 rfl) ?_
           refine l_does rfl rfl (g_store1 (cs' := _ :: _ :: _ :: _ :: _ :: _ :: _ :: _ :: _ :: _ :: _ :: _) sz_4 rfl rfl (by first | rfl | exact fvV_cells _ _) rfl (by first | rfl | exact fvV_one _ _) rfl .here) ?_
           intro _ _
           refine nR ?_
           refine lM rfl ?_
           refine lV (y_len sl_22 rfl) ?_
           refine lM rfl ?_
           refine lN rfl ?_
           refine lV (y_fieldAddr fo_46_4 rfl) ?_
           refine lV (y_load1 ld_3 rfl m0 rfl) ?_
           refine lV (y_bin rfl rfl rfl (fitN (m := stems + n2 / 2 + 7) (by omega) (by omega))) ?_
           refine lV (y_quo rfl rfl (by decide) (quoV 8 rfl (by omega))) ?_
           refine lB rfl rfl rfl rfl ?_
           refine l_callP hP ok_12 rfl rfl (out_keepP (fun w1 => f12_any w1 _)) ?_
           intro _ hn
           have hlm : (stems + n2 / 2 + 7) / 8 < r.length := by simp only [decide_eq_true_eq] at hn; omega
           refine nG ?_
           refine lM rfl ?_
           refine lM rfl ?_
           refine lN rfl ?_
           refine lV (y_fieldAddr fo_46_4 rfl) ?_
           refine lV (y_load1 ld_3 rfl m0 rfl) ?_
           refine lV (y_bin rfl rfl rfl (fitN (m := stems + n2 / 2 + 7) (by omega) (by omega))) ?_
           refine lV (y_quo rfl rfl (by decide) (quoV 8 rfl (by omega))) ?_
           refine lV (y_sliceLo (i := (stems + n2 / 2 + 7) / 8) es_22 rfl rfl (by omega) hcr) ?_
           refine lA rfl ?_
           refine l_nil ?_
           refine q_block ?_
           refine q_block ?_
           exact q_rnd ((⟨p, [], stems + n2 / 2, true, true, false, deep1, ops + 1⟩ : CSt), r.drop ((stems + n2 / 2 + 7) / 8), some _, cr - (stems + n2 / 2 + 7) / 8, so, sf2) ⟨fun c' h => hK c' (by subst hn4; exact .mask rfl ho (.inl rfl) hms hn5 hlm h), (by subst hn4; exact hI.mask ho), rfl, hRr.drop (by omega) hcr, (by rw [List.length_drop]; exact Nat.sub_le_sub_right hcr _), (fun x hx => hur x (List.mem_of_mem_drop hx)), hok, hfv2⟩ (by simp only; omega) ⟨rfl, (by rw [List.length_drop]; rfl), trivial⟩ (.cons .here .refl)
          ·refine l_want rfl rfl ?_
           refine lM rfl ?_
           refine l_want rfl rfl ?_
           refine lN rfl ?_
           refine l_want rfl rfl ?_
           refine lV (y_fieldAddr fo_46_1 rfl) ?_
           refine l_want rfl rfl ?_
           refine lV (y_load1 ld_44 rfl m0 rfl) ?_
           refine l_want rfl rfl ?_
           refine lV (y_lenFv sl_44 rfl hnil) ?_
           refine l_want rfl rfl ?_
           refine lB rfl rfl rfl rfl ?_
           refine lV (y_pick rfl rfl rfl) ?_
           refine l_callP hP ok_12 rfl rfl (out_keepP (fun w1 => f12_any w1 _)) ?_
           intro _ hn
           have hms : masked = false ∨ st = [] := .inr (List.length_eq_zero_iff.1 (by simp only [beq_iff_eq] at hn; omega))
           refine nR ?_
           refine lM rfl ?_
           refine l_callP hP ok_16 rfl rfl (out_allP (H1 := (bC, slV so p.out.length :: .float .f64 (F p.x) :: .float .f64 (F p.y) :: .bool p.o :: .float .f64 (F p.fx) :: .float .f64 (F p.fy) :: fvV sf st.length :: [.slice Alo los.length cLo, .slice Agl gls.length cGl, .int .i64 (stems : Nat), .bool masked, .bool begun, .bool false, .int .i64 (deep1 : Nat), .int .i64 ((ops + 1) : Nat)], 46) :: (slH so (encS p.out) 34 ++ fvH sf (st.map flv) 41)) (fun w1 ha hb => f16_any w1 bC p so sf st _ _ stems masked begun false deep1 (ops + 1) hI48 (by omega) hfv hb)) ?_
           intro ⟨n2, sf2⟩ ⟨hn4, hn5, hfv2⟩
           simp only at hn4 hn5 hfv2 ⊢
           have hn48 : n2 ≤ 48 := by have := bareL_len (-1) begun st; omega
           refine nR ?_
           refine lM rfl ?_
           refine lN rfl ?_
           refine lV (y_fieldAddr fo_46_5 rfl) ?_
           refine l_does rfl rfl (g_store1 (cs' := _ :: _ :: _ :: _ :: _ :: _ :: _ :: _ :: _ :: _ :: _ :: _) sz_4 rfl rfl (by first | rfl | exact fvV_cells _ _) rfl (by first | rfl | exact fvV_one _ _) rfl .here) ?_
           intro _ _
           refine nR ?_
           refine lM rfl ?_
           refine lV (y_len sl_22 rfl) ?_
           refine lM rfl ?_
           refine lN rfl ?_
           refine lV (y_fieldAddr fo_46_4 rfl) ?_
           refine lV (y_load1 ld_3 rfl m0 rfl) ?_
           refine lV (y_bin rfl rfl rfl (fitN (m := stems + n2 / 2 + 7) (by omega) (by omega))) ?_
           refine lV (y_quo rfl rfl (by decide) (quoV 8 rfl (by omega))) ?_
           refine lB rfl rfl rfl rfl ?_
           refine l_callP hP ok_12 rfl rfl (out_keepP (fun w1 => f12_any w1 _)) ?_
           intro _ hn
           have hlm : (stems + n2 / 2 + 7) / 8 < r.length := by simp only [decide_eq_true_eq] at hn; omega
           refine nG ?_
           refine lM rfl ?_
           refine lM rfl ?_
           refine lN rfl ?_
           refine lV (y_fieldAddr fo_46_4 rfl) ?_
           refine lV (y_load1 ld_3 rfl m0 rfl) ?_
           refine lV (y_bin rfl rfl rfl (fitN (m := stems + n2 / 2 + 7) (by omega) (by omega))) ?_
           refine lV (y_quo rfl rfl (by decide) (quoV 8 rfl (by omega))) ?_
           refine lV (y_sliceLo (i := (stems + n2 / 2 + 7) / 8) es_22 rfl rfl (by omega) hcr) ?_
           refine lA rfl ?_
           refine l_nil ?_
           refine q_block ?_
           refine q_block ?_
           exact q_rnd ((⟨p, [], stems + n2 / 2, true, true, false, deep1, ops + 1⟩ : CSt), r.drop ((stems + n2 / 2 + 7) / 8), some _, cr - (stems + n2 / 2 + 7) / 8, so, sf2) ⟨fun c' h => hK c' (by subst hn4; exact .mask rfl ho (.inl rfl) hms hn5 hlm h), (by subst hn4; exact hI.mask ho), rfl, hRr.drop (by omega) hcr, (by rw [List.length_drop]; exact Nat.sub_le_sub_right hcr _), (fun x hx => hur x (List.mem_of_mem_drop hx)), hok, hfv2⟩ (by simp only; omega) ⟨rfl, (by rw [List.length_drop]; rfl), trivial⟩ (.cons .here .refl)
         ·have hne19 : v ≠ 19 := by simp only [beq_eq_false_iff_ne] at hc104; omega
          refine c_region ?_
          refine lB rfl rfl rfl rfl ?_
          refine lA rfl ?_
          refine nQ ?_
          refine c_cond rfl (fun hc104 => ?_) (fun hc104 => ?_)
          ·have hvv : v = 20 := by simp only [beq_iff_eq] at hc104; omega
           subst hvv
           refine cR ?_
           refine lM rfl ?_
           refine lN rfl ?_
           refine lV (y_fieldAddr fo_46_5 rfl) ?_
           refine lV (y_load1 ld_4 rfl m0 rfl) ?_
           refine lV (y_not rfl) ?_
           refine lM rfl ?_
           refine l_split (t := 112) rfl rfl (fun hs112 => ?_) (fun hs112 => ?_)
           ·have hms : masked = false ∨ st = [] := .inl (by simpa using hs112)
            refine l_not rfl rfl rfl rfl ?_
            refine l_not rfl rfl rfl rfl ?_
            refine l_not rfl rfl rfl rfl ?_
            refine l_not rfl rfl rfl rfl ?_
            refine l_not rfl rfl rfl rfl ?_
            refine l_not rfl rfl rfl rfl ?_
            refine lV (y_pick rfl rfl rfl) ?_
            refine l_callP hP ok_12 rfl rfl (out_keepP (fun w1 => f12_any w1 _)) ?_
            intro _ hn
            refine nR ?_
            refine lM rfl ?_
            refine l_callP hP ok_16 rfl rfl (out_allP (H1 := (bC, slV so p.out.length :: .float .f64 (F p.x) :: .float .f64 (F p.y) :: .bool p.o :: .float .f64 (F p.fx) :: .float .f64 (F p.fy) :: fvV sf st.length :: [.slice Alo los.length cLo, .slice Agl gls.length cGl, .int .i64 (stems : Nat), .bool masked, .bool begun, .bool false, .int .i64 (deep1 : Nat), .int .i64 ((ops + 1) : Nat)], 46) :: (slH so (encS p.out) 34 ++ fvH sf (st.map flv) 41)) (fun w1 ha hb => f16_any w1 bC p so sf st _ _ stems masked begun false deep1 (ops + 1) hI48 (by omega) hfv hb)) ?_
            intro ⟨n2, sf2⟩ ⟨hn4, hn5, hfv2⟩
            simp only at hn4 hn5 hfv2 ⊢
            have hn48 : n2 ≤ 48 := by have := bareL_len (-1) begun st; omega
            refine nR ?_
            refine lM rfl ?_
            refine lN rfl ?_
            refine lV (y_fieldAddr fo_46_5 rfl) ?_
            refine l_does rfl rfl (g_store1 (cs' := _ :: _ :: _ :: _ :: _ :: _ :: _ :: _ :: _ :: _ :: _ :: _) sz_4 rfl rfl (by first | rfl | exact fvV_cells _ _) rfl (by first | rfl | exact fvV_one _ _) rfl .here) ?_
            intro _ _
            refine nR ?_
            refine lM rfl ?_
            refine lV (y_len sl_22 rfl) ?_
            refine lM rfl ?_
            refine lN rfl ?_
            refine lV (y_fieldAddr fo_46_4 rfl) ?_
            refine lV (y_load1 ld_3 rfl m0 rfl) ?_
            refine lV (y_bin rfl rfl rfl (fitN (m := stems + n2 / 2 + 7) (by omega) (by omega))) ?_
            refine lV (y_quo rfl rfl (by decide) (quoV 8 rfl (by omega))) ?_
            refine lB rfl rfl rfl rfl ?_
            refine l_callP hP ok_12 rfl rfl (out_keepP (fun w1 => f12_any w1 _)) ?_
            intro _ hn
            have hlm : (stems + n2 / 2 + 7) / 8 < r.length := by simp only [decide_eq_true_eq] at hn; omega
            refine nG ?_
            refine lM rfl ?_
            refine lM rfl ?_
            refine lN rfl ?_
            refine lV (y_fieldAddr fo_46_4 rfl) ?_
            refine lV (y_load1 ld_3 rfl m0 rfl) ?_
            refine lV (y_bin rfl rfl rfl (fitN (m := stems + n2 / 2 + 7) (by omega) (by omega))) ?_
            refine lV (y_quo rfl rfl (by decide) (quoV 8 rfl (by omega))) ?_
            refine lV (y_sliceLo (i := (stems + n2 / 2 + 7) / 8) es_22 rfl rfl (by omega) hcr) ?_
            refine lA rfl ?_
            refine l_nil ?_
            refine q_block ?_
            refine q_block ?_
            exact q_rnd ((⟨p, [], stems + n2 / 2, true, true, false, deep1, ops + 1⟩ : CSt), r.drop ((stems + n2 / 2 + 7) / 8), some _, cr - (stems + n2 / 2 + 7) / 8, so, sf2) ⟨fun c' h => hK c' (by subst hn4; exact .mask rfl ho (.inr rfl) hms hn5 hlm h), (by subst hn4; exact hI.mask ho), rfl, hRr.drop (by omega) hcr, (by rw [List.length_drop]; exact Nat.sub_le_sub_right hcr _), (fun x hx => hur x (List.mem_of_mem_drop hx)), hok, hfv2⟩ (by simp only; omega) ⟨rfl, (by rw [List.length_drop]; rfl), trivial⟩ (.cons .here .refl)
           ·refine l_want rfl rfl ?_
            refine lM rfl ?_
            refine l_want rfl rfl ?_
            refine lN rfl ?_
            refine l_want rfl rfl ?_
            refine lV (y_fieldAddr fo_46_1 rfl) ?_
            refine l_want rfl rfl ?_
            refine lV (y_load1 ld_44 rfl m0 rfl) ?_
            refine l_want rfl rfl ?_
            refine lV (y_lenFv sl_44 rfl hnil) ?_
            refine l_want rfl rfl ?_
            refine lB rfl rfl rfl rfl ?_
            refine lV (y_pick rfl rfl rfl) ?_
            refine l_callP hP ok_12 rfl rfl (out_keepP (fun w1 => f12_any w1 _)) ?_
            intro _ hn
            have hms : masked = false ∨ st = [] := .inr (List.length_eq_zero_iff.1 (by simp only [beq_iff_eq] at hn; omega))
            refine nR ?_
            refine lM rfl ?_
            refine l_callP hP ok_16 rfl rfl (out_allP (H1 := (bC, slV so p.out.length :: .float .f64 (F p.x) :: .float .f64 (F p.y) :: .bool p.o :: .float .f64 (F p.fx) :: .float .f64 (F p.fy) :: fvV sf st.length :: [.slice Alo los.length cLo, .slice Agl gls.length cGl, .int .i64 (stems : Nat), .bool masked, .bool begun, .bool false, .int .i64 (deep1 : Nat), .int .i64 ((ops + 1) : Nat)], 46) :: (slH so (encS p.out) 34 ++ fvH sf (st.map flv) 41)) (fun w1 ha hb => f16_any w1 bC p so sf st _ _ stems masked begun false deep1 (ops + 1) hI48 (by omega) hfv hb)) ?_
            intro ⟨n2, sf2⟩ ⟨hn4, hn5, hfv2⟩
            simp only at hn4 hn5 hfv2 ⊢
            have hn48 : n2 ≤ 48 := by have := bareL_len (-1) begun st; omega
            refine nR ?_
            refine lM rfl ?_
            refine lN rfl ?_
            refine lV (y_fieldAddr fo_46_5 rfl) ?_
            refine l_does rfl rfl (g_store1 (cs' := _ :: _ :: _ :: _ :: _ :: _ :: _ :: _ :: _ :: _ :: _ :: _) sz_4 rfl rfl (by first | rfl | exact fvV_cells _ _) rfl (by first | rfl | exact fvV_one _ _) rfl .here) ?_
            intro _ _
            refine nR ?_
            refine lM rfl ?_
            refine lV (y_len sl_22 rfl) ?_
            refine lM rfl ?_
            refine lN rfl ?_
            refine lV (y_fieldAddr fo_46_4 rfl) ?_
            refine lV (y_load1 ld_3 rfl m0 rfl) ?_
            refine lV (y_bin rfl rfl rfl (fitN (m := stems + n2 / 2 + 7) (by omega) (by omega))) ?_
            refine lV (y_quo rfl rfl (by decide) (quoV 8 rfl (by omega))) ?_
            refine lB rfl rfl rfl rfl ?_
            refine l_callP hP ok_12 rfl rfl (out_keepP (fun w1 => f12_any w1 _)) ?_
            intro _ hn
            have hlm : (stems + n2 / 2 + 7) / 8 < r.length := by simp only [decide_eq_true_eq] at hn; omega
            refine nG ?_
            refine lM rfl ?_
            refine lM rfl ?_
            refine lN rfl ?_
            refine lV (y_fieldAddr fo_46_4 rfl) ?_
            refine lV (y_load1 ld_3 rfl m0 rfl) ?_
            refine lV (y_bin rfl rfl rfl (fitN (m := stems + n2 / 2 + 7) (by omega) (by omega))) ?_
            refine lV (y_quo rfl rfl (by decide) (quoV 8 rfl (by omega))) ?_
            refine lV (y_sliceLo (i := (stems + n2 / 2 + 7) / 8) es_22 rfl rfl (by omega) hcr) ?_
            refine lA rfl ?_
            refine l_nil ?_
            refine q_block ?_
            refine q_block ?_
            exact q_rnd ((⟨p, [], stems + n2 / 2, true, true, false, deep1, ops + 1⟩ : CSt), r.drop ((stems + n2 / 2 + 7) / 8), some _, cr - (stems + n2 / 2 + 7) / 8, so, sf2) ⟨fun c' h => hK c' (by subst hn4; exact .mask rfl ho (.inr rfl) hms hn5 hlm h), (by subst hn4; exact hI.mask ho), rfl, hRr.drop (by omega) hcr, (by rw [List.length_drop]; exact Nat.sub_le_sub_right hcr _), (fun x hx => hur x (List.mem_of_mem_drop hx)), hok, hfv2⟩ (by simp only; omega) ⟨rfl, (by rw [List.length_drop]; rfl), trivial⟩ (.cons .here .refl)
          ·have hne20 : v ≠ 20 := by simp only [beq_eq_false_iff_ne] at hc104; omega
           refine c_region ?_
           refine lM rfl ?_
           refine lM rfl ?_
           refine l_callP hP ok_17 rfl rfl (out_allP (H1 := (bC, slV so p.out.length :: .float .f64 (F p.x) :: .float .f64 (F p.y) :: .bool p.o :: .float .f64 (F p.fx) :: .float .f64 (F p.fy) :: fvV sf st.length :: [.slice Alo los.length cLo, .slice Agl gls.length cGl, .int .i64 (stems : Nat), .bool masked, .bool begun, .bool false, .int .i64 (deep1 : Nat), .int .i64 ((ops + 1) : Nat)], 46) :: (slH so (encS p.out) 34 ++ fvH sf (st.map flv) 41)) (fun w1 ha hb => f17_any w1 bC (ops * 128849018880) v p so sf st _ _ stems masked begun false deep1 (ops + 1) hI48 (by omega) hIq hIb (by omega) hok hfv (by omega) hb)) ?_
           intro ⟨p2, stems2, begun2, ended2, so2, sf2⟩ ⟨hop, hok2, hfv2⟩
           simp only at hop hok2 hfv2 ⊢
           refine l_nil ?_
           refine q_block ?_
           refine q_block ?_
           exact q_rnd ((⟨p2, [], stems2, masked, begun2, ended2, deep1, ops + 1⟩ : CSt), r, some _, cr, so2, sf2) ⟨fun c' h => hK c' (.op rfl ho hnum hne10 hne29 hne11 hne12 hne19 hne20 hop h), (hI.op ho hop).1, rfl, hRr, hcr, hur, hok2, hfv2⟩ (by simp only; omega) ⟨rfl, rfl, trivial⟩ (.cons .here .refl)
  ·refine c_exit ?_
   refine q_then_exit ?_
   refine q_rnd_exit ?_
   refine q_block_exit ?_
   refine qG ?_
   refine lM rfl ?_
   refine lN rfl ?_
   refine lV (y_fieldAddr fo_46_7 rfl) ?_
   refine lV (y_load1 ld_4 rfl m0 rfl) ?_
   refine l_callP hP ok_12 rfl rfl (out_keepP (fun w1 => f12_any w1 _)) ?_
   intro _ hn
   have hend : ended = true := hn
   refine l_nil ?_
   exact body_ret (rs := []) rfl (vs := []) trivial (out_endP ((⟨p, st, stems, masked, begun, ended, deep1, ops⟩ : CSt), so, sf) ⟨hK _ (.ended hend), hI, rfl, hd9, hok, hfv⟩ rfl .refl) _ (.inl rfl)
 ·refine l_not rfl rfl rfl rfl ?_
  refine l_not rfl rfl rfl rfl ?_
  refine l_not rfl rfl rfl rfl ?_
  refine l_not rfl rfl rfl rfl ?_
  refine l_not rfl rfl rfl rfl ?_
  refine lV (y_pick rfl rfl rfl) ?_
  refine nQ ?_
  refine c_false rfl rfl ?_
  refine c_exit ?_
  refine q_then_exit ?_
  refine q_rnd_exit ?_
  refine q_block_exit ?_
  refine qG ?_
  refine lM rfl ?_
  refine lN rfl ?_
  refine lV (y_fieldAddr fo_46_7 rfl) ?_
  refine lV (y_load1 ld_4 rfl m0 rfl) ?_
  refine l_callP hP ok_12 rfl rfl (out_keepP (fun w1 => f12_any w1 _)) ?_
  intro _ hn
  have hend : ended = true := hn
  refine l_nil ?_
  exact body_ret (rs := []) rfl (vs := []) trivial (out_endP ((⟨p, st, stems, masked, begun, ended, deep1, ops⟩ : CSt), so, sf) ⟨hK _ (.ended hend), hI, rfl, hd9, hok, hfv⟩ rfl .refl) _ (.inl rfl)
theorem run_ok : ∀ d, d ≤ 9 → RunOk (9 - d)
  | 0, _ => run_of_call (fun h => absurd h (by decide))
  | d + 1, h => run_of_call fun _ => call_of_run (by omega) (show RunOk (9 - (d + 1) + 1) from (show 9 - (d + 1) + 1 = 9 - d by omega) ▸ run_ok d (by omega))
theorem run0 : RunOk 0 := run_ok 9 (Nat.le_refl _)
end Go.Proofs.YtbepljmeflndkaaGreatDoor
