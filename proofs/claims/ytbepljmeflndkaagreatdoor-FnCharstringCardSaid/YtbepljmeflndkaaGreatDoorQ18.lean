/- Part 18 of the proof about FnCharstring. -/
import Derived.Test.YtbepljmeflndkaaGreatDoorQ17
import Derived.Test.YtbepljmeflndkaaGreatDoorQ08
import Derived.ProofKit
import Derived.OpenShut
import Derived.Deep.Slices
import Derived.ChangeSame
import Derived.LaidMore
import Derived.Lay
import Derived.OpenVars
namespace Go.Proofs.YtbepljmeflndkaaGreatDoor
open Go.Eng Go.Fl
set_option maxRecDepth 100000
attribute [local irreducible] IntKind.wrap Int.tdiv Int.tmod Int.emod maxLen F G
theorem sr_cmp {a b : Int} (ha : a.natAbs < 2 ^ 53) (hb : b.natAbs < 2 ^ 53) : (sr a < sr b → a < b) ∧ (sr b < sr a → b < a) := by
  refine ⟨fun h => ?_, fun h => ?_⟩
  · refine Int.not_le.1 fun hc => ?_
    have := sr_mono hb ha hc
    omega
  · refine Int.not_le.1 fun hc => ?_
    have := sr_mono ha hb hc
    omega
theorem min2_G {a b : Int} (ha : a.natAbs < 2 ^ 53) (hb : b.natAbs < 2 ^ 53) : Builtin.min2 (.float .f32 (G a)) (.float .f32 (G b)) = pure (.float .f32 (G (min a b))) := by
  have ho : FloatKind.f32.format.order (G a) (G b) = some (compare (sr a) (sr b)) := order_G ha hb
  obtain ⟨h1, h2⟩ := sr_cmp ha hb
  unfold Builtin.min2
  simp only [ho]
  rcases Int.lt_trichotomy (sr a) (sr b) with h | h | h
  · rw [Int.compare_eq_lt.2 h, Int.min_eq_left (Int.le_of_lt (h1 h))]
  · rw [Int.compare_eq_eq.2 h]
    have e := G_eq ha hb h
    have e2 : G (min a b) = G a := by
      rcases Int.le_total a b with hc | hc
      · rw [Int.min_eq_left hc]
      · rw [Int.min_eq_right hc, e]
    rw [e2, ← e]
    simp
  · rw [Int.compare_eq_gt.2 h, Int.min_eq_right (Int.le_of_lt (h2 h))]
theorem max2_G {a b : Int} (ha : a.natAbs < 2 ^ 53) (hb : b.natAbs < 2 ^ 53) : Builtin.max2 (.float .f32 (G a)) (.float .f32 (G b)) = pure (.float .f32 (G (max a b))) := by
  have ho : FloatKind.f32.format.order (G a) (G b) = some (compare (sr a) (sr b)) := order_G ha hb
  obtain ⟨h1, h2⟩ := sr_cmp ha hb
  unfold Builtin.max2
  simp only [ho]
  rcases Int.lt_trichotomy (sr a) (sr b) with h | h | h
  · rw [Int.compare_eq_lt.2 h, Int.max_eq_right (Int.le_of_lt (h1 h))]
  · rw [Int.compare_eq_eq.2 h]
    have e := G_eq ha hb h
    have e2 : G (max a b) = G a := by
      rcases Int.le_total a b with hc | hc
      · rw [Int.max_eq_right hc, e]
      · rw [Int.max_eq_left hc]
    rw [e2, ← e]
    simp
  · rw [Int.compare_eq_gt.2 h, Int.max_eq_left (Int.le_of_lt (h2 h))]
section
variable {n : Nat} {D : List Deferred} {w0 : World} {S : List Nat} {L : Slots} {H : Heap} {d : Option Tmp} {ty : TypeId} {pos : String} {af : Array Edge} {gd : Option (Nat × Bool)}
theorem y_minG {t u : TypeId} {x y : Operand} {i j : Int} (hi : i.natAbs < 2 ^ 53) (hj : j.natAbs < 2 ^ 53) (hx : ev L x = some (.float .f32 (G i))) (hy : ev L y = some (.float .f32 (G j))) :
    Go.Eng.Yields Tryz.prog n D w0 S ⟨d, .call { callee := .builtin .min, args := #[x, y], argTypes := #[t, u] }, ty, pos, af, gd⟩ L H (.float .f32 (G (min i j))) := by
  intro a w ha hw
  simp [execOp, resolve, invoke, builtin, ha.ev_eq hx, ha.ev_eq hy, Builtin.min_, min2_G hi hj]
theorem y_maxG {t u : TypeId} {x y : Operand} {i j : Int} (hi : i.natAbs < 2 ^ 53) (hj : j.natAbs < 2 ^ 53) (hx : ev L x = some (.float .f32 (G i))) (hy : ev L y = some (.float .f32 (G j))) :
    Go.Eng.Yields Tryz.prog n D w0 S ⟨d, .call { callee := .builtin .max, args := #[x, y], argTypes := #[t, u] }, ty, pos, af, gd⟩ L H (.float .f32 (G (max i j))) := by
  intro a w ha hw
  simp [execOp, resolve, invoke, builtin, ha.ev_eq hx, ha.ev_eq hy, Builtin.max_, max2_G hi hj]
end
def Srt (bx : Bx) : Prop := ∀ a b c d, bx = some (a, b, c, d) → a ≤ c ∧ b ≤ d
theorem Srt.enl {bx : Bx} (h : Srt bx) (x y : Int) : Srt (enl bx x y) := by
  cases bx with
  | none => intro a b c d e; injection e with e; injection e with e1 e2; injection e2 with e2 e3; injection e3 with e3 e4; omega
  | some v =>
    obtain ⟨a, b, c, d⟩ := v
    have := h a b c d rfl
    intro a' b' c' d' e; injection e with e; injection e with e1 e2; injection e2 with e2 e3; injection e3 with e3 e4; omega
def fo (bx : Bx) (r : List (Int × Int)) : Bx := r.foldl (fun b p => Go.Proofs.YtbepljmeflndkaaGreatDoor.enl b p.1 p.2) bx
theorem fo_bd {M : Nat} {B : Bx} (hB : BxBd B M) : ∀ {r : List (Int × Int)} {bx : Bx}, Srt bx → fo bx r = B → BxBd bx M ∧ ∀ p ∈ r, p.1.natAbs ≤ M ∧ p.2.natAbs ≤ M
  | [], bx, _, h => ⟨by rw [show bx = B from h]; exact hB, fun p hp => by cases hp⟩
  | p :: r, bx, hs, h => by
    obtain ⟨h1, h2⟩ := fo_bd hB (hs.enl p.1 p.2) (show fo (enl bx p.1 p.2) r = B from h)
    cases bx with
    | none =>
      have := h1 _ _ _ _ rfl
      exact ⟨fun a b c d e => by (cases e), List.forall_mem_cons.2 ⟨⟨this.1, this.2.1⟩, h2⟩⟩
    | some v =>
      obtain ⟨a, b, c, d⟩ := v
      have h3 := h1 _ _ _ _ rfl
      have h4 := hs a b c d rfl
      refine ⟨fun a' b' c' d' e => ?_, List.forall_mem_cons.2 ⟨⟨by omega, by omega⟩, h2⟩⟩
      injection e with e; injection e with e1 e2; injection e2 with e2 e3; injection e3 with e3 e4
      omega
theorem pt_at : ∀ {t : IS} {k : Nat} {x y : Int}, t.pts[k]? = some (x, y) → t.stk.cells[1 + k * 1]? = some (.float .f32 (G x)) ∧ t.stk.cells[4 + k * 1]? = some (.float .f32 (G y))
  | .mv _ _, 0, _, _, h => by injection h with h; injection h with h1 h2; subst h1 h2; exact ⟨rfl, rfl⟩
  | .ln _ _, 0, _, _, h => by injection h with h; injection h with h1 h2; subst h1 h2; exact ⟨rfl, rfl⟩
  | .cv _ _ _ _ _ _, 0, _, _, h => by injection h with h; injection h with h1 h2; subst h1 h2; exact ⟨rfl, rfl⟩
  | .cv _ _ _ _ _ _, 1, _, _, h => by injection h with h; injection h with h1 h2; subst h1 h2; exact ⟨rfl, rfl⟩
  | .cv _ _ _ _ _ _, 2, _, _, h => by injection h with h; injection h with h1 h2; subst h1 h2; exact ⟨rfl, rfl⟩
  | .mv _ _, k + 1, _, _, h => by simp [IS.pts] at h
  | .ln _ _, k + 1, _, _, h => by simp [IS.pts] at h
  | .cv _ _ _ _ _ _, k + 3, _, _, h => by simp [IS.pts] at h
theorem mx_pts : ∀ t : IS, max t.stk.op 1 = (t.pts.length : Int)
  | .mv _ _ => (by decide : max (0 : Int) 1 = 1)
  | .ln _ _ => (by decide : max (1 : Int) 1 = 1)
  | .cv _ _ _ _ _ _ => (by decide : max (3 : Int) 1 = 3)
theorem pts_le (t : IS) : t.pts.length ≤ 3 := by cases t <;> simp [IS.pts]
theorem op_mv : ∀ t : IS, (t.stk.op == 0) = t.isMv
  | .mv _ _ => rfl
  | .ln _ _ => rfl
  | .cv _ _ _ _ _ _ => rfl
theorem G_zero : G 0 = 0 := by kernel_rfl
theorem zero29 (b2 : Nat) (R : Heap) : ((b2, [.float .f32 0, .float .f32 0, .float .f32 0, .float .f32 0], 29) :: R).Perm ((b2, [.float .f32 (G (bi1 none)), .float .f32 (G (bi2 none)), .float .f32 (G (bi3 none)), .float .f32 (G (bi4 none))], 29) :: R) := by
  simp only [bi1, bi2, bi3, bi4, G_zero]
  exact .refl _
theorem bpts_run {t : IS} {r : List IS} (h : t.isMv = false) : bpts (t :: r) = t.pts ++ bpts r := by
  show (bif t.isMv && _ then [] else t.pts) ++ bpts r = _
  rw [h]; rfl
theorem bpts_last {t : IS} (h : t.isMv = true) : bpts [t] = bpts [] := by
  show (bif t.isMv && true then [] else t.pts) ++ bpts [] = _
  rw [h]; rfl
theorem bpts_two {t t2 : IS} {r : List IS} (h : t.isMv = true) : bpts (t :: t2 :: r) = (bif t2.isMv then [] else t.pts) ++ bpts (t2 :: r) := by
  show (bif t.isMv && t2.isMv then [] else t.pts) ++ bpts (t2 :: r) = _
  rw [h]; rfl
theorem is_drop {l : List IS} {i : Nat} {t : IS} (h : l[i]? = some t) : l.drop i = t :: l.drop (i + 1) := by
  obtain ⟨h1, h2⟩ := List.getElem?_eq_some_iff.1 h
  rw [List.drop_eq_getElem_cons h1, h2]
set_option maxHeartbeats 4000000 in
theorem f7_any (w : World) (l : List IS) (M : Nat) (hM : M < 2 ^ 53) (hB : BxBd (bnd (bpts l)) M) (so : Sv) (hok : slOk so l.length 7 (encS (l.map IS.stk))) (hlen : l.length ≤ 70000) (hR : RdX w [] so (encS (l.map IS.stk))) : Calls Tryz.prog 7 [slV so l.length].toArray w (Out w [] (fun z : Unit => True) (fun z => .agg #[.float .f32 (G (bi1 (bnd (bpts l)))), .float .f32 (G (bi2 (bnd (bpts l)))), .float .f32 (G (bi3 (bnd (bpts l)))), .float .f32 (G (bi4 (bnd (bpts l))))]) (fun z => [])) := by
 refine enter (n := 75) Tryz.func7 rfl rfl rfl (Hp.refl w) ?_
 refine cR ?_
 refine l_gives rfl rfl (g_alloc ze_29) rfl ?_
 intro b2 hb2
 refine l_nil ?_
 refine q_perm (zero29 b2 _) ?_
 refine qR ?_
 refine lA rfl ?_
 refine nQ ?_
 refine c_seq ?_
 refine cR ?_
 refine lM rfl ?_
 refine lV (y_lenSv sl_25 rfl (slOk.nil hok)) ?_
 refine lM rfl ?_
 refine nQ ?_
 refine c_block ?_
 refine c_loop (ι := Nat × Bx) (φ := fun z => z.1 ≤ l.length ∧ fo z.2 (bpts (l.drop z.1)) = bnd (bpts l) ∧ Srt z.2) (L' := fun z => [(0, slV so l.length), (2, .pointer (some ⟨b2, 0, none⟩)), (3, .bool z.2.isNone), (9, slV so l.length), (10, .int .i64 (l.length : Nat)), (11, .int .i64 (z.1 : Nat))]) (H' := fun z => [(b2, [.float .f32 (G (bi1 z.2)), .float .f32 (G (bi2 z.2)), .float .f32 (G (bi3 z.2)), .float .f32 (G (bi4 z.2))], 29)]) (fun z => l.length - z.1) (0, none) ⟨Nat.zero_le _, rfl, fun _ _ _ _ h => by cases h⟩ ⟨rfl, rfl, rfl, rfl, rfl, rfl, trivial⟩ (.cons .here .nil) ?_
 intro ⟨i, bx⟩ ⟨hi, hfo, hsr⟩
 simp only at hi hfo hsr ⊢
 refine cR ?_
 refine lB rfl rfl rfl rfl ?_
 refine nQ ?_
 refine c_seq ?_
 refine c_cond rfl (fun hc12 => ?_) (fun hc12 => ?_)
 ·have hlt : i < l.length := by simp only [decide_eq_true_eq] at hc12; omega
  obtain ⟨g, sp, cap, rfl⟩ := sv_some hok (by omega)
  obtain ⟨hg, _, hcell⟩ := hR g sp cap rfl
  obtain ⟨t, ht⟩ : ∃ t, l[i]? = some t := ⟨_, List.getElem?_eq_getElem hlt⟩
  have hts : (l.map IS.stk)[i]? = some t.stk := by rw [List.getElem?_map, ht]; rfl
  have hdr := is_drop ht
  rw [hdr] at hfo
  refine kQ ?_
  refine c_seq ?_
  refine c_block ?_
  refine cR ?_
  refine lM rfl ?_
  refine lV (y_indexAddrOwn es_25 rfl rfl hlt) ?_
  refine lV (y_oldLoadN (vs := t.stk.cells) ld_34 rfl hg List.not_mem_nil rfl (fun j v hj => by rw [Addr.add_lit]; exact hcell _ _ (scell_at hts hj))) ?_
  refine l_gives rfl rfl (g_alloc ze_34) rfl ?_
  intro b5 hb5
  refine lA rfl ?_
  refine l_does rfl rfl (g_storeN (vs := t.stk.cells) (cs' := t.stk.cells) sz_34 rfl rfl rfl rfl rfl rfl rfl .here) ?_
  intro _ _
  refine nQ ?_
  refine c_seq ?_
  refine cR ?_
  refine lV (y_fieldAddr fo_34_0 rfl) ?_
  refine lV (y_load1 ld_3 rfl m0 rfl) ?_
  refine lB rfl rfl rfl rfl ?_
  refine lM rfl ?_
  refine l_split (t := 19) rfl rfl (fun hs19 => ?_) (fun hs19 => ?_)
  ·have hmv : t.isMv = true := by rw [← op_mv]; exact hs19
   refine l_want rfl rfl ?_
   refine lM rfl ?_
   refine l_want rfl rfl ?_
   refine lV (y_bin rfl rfl rfl (fitN (m := i + 1) (by omega) (by omega))) ?_
   refine l_want rfl rfl ?_
   refine lM rfl ?_
   refine l_want rfl rfl ?_
   refine lV (y_lenSv sl_25 rfl (slOk.nil hok)) ?_
   refine l_want rfl rfl ?_
   refine lB rfl rfl rfl rfl ?_
   refine l_want rfl rfl ?_
   refine lM rfl ?_
   refine l_split (t := 25) rfl rfl (fun hs25 => ?_) (fun hs25 => ?_)
   ·have hin : i + 1 = l.length := by rw [beq_iff_eq] at hs25; omega
    have hfo2 : fo bx (bpts (l.drop (i + 1))) = bnd (bpts l) := by rw [show l.drop (i + 1) = [] by rw [hin, List.drop_length]] at hfo ⊢; rw [bpts_last hmv] at hfo; exact hfo
    refine l_not rfl rfl rfl rfl ?_
    refine l_not rfl rfl rfl rfl ?_
    refine l_not rfl rfl rfl rfl ?_
    refine l_not rfl rfl rfl rfl ?_
    refine l_not rfl rfl rfl rfl ?_
    refine l_not rfl rfl rfl rfl ?_
    refine l_not rfl rfl rfl rfl ?_
    refine l_want rfl rfl ?_
    refine lV (y_pick rfl rfl rfl) ?_
    refine lV (y_pick rfl rfl rfl) ?_
    refine nQ ?_
    refine c_true rfl rfl ?_
    refine c_exit ?_
    refine q_then_exit ?_
    refine q_block_exit ?_
    refine qG ?_
    refine lV (y_bin rfl rfl rfl (fitN (m := i + 1) (by omega) (by omega))) ?_
    refine lM rfl ?_
    refine l_nil ?_
    exact q_rnd (i + 1, bx) ⟨by simp only; omega, hfo2, hsr⟩ (by simp only; omega) ⟨rfl, rfl, rfl, rfl, rfl, rfl, trivial⟩ (.cons (.there .here) .nil)
   ·have hlt2 : i + 1 < l.length := by rw [beq_eq_false_iff_ne] at hs25; omega
    obtain ⟨t2, ht2⟩ : ∃ t, l[i + 1]? = some t := ⟨_, List.getElem?_eq_getElem hlt2⟩
    have hts2 : (l.map IS.stk)[i + 1]? = some t2.stk := by rw [List.getElem?_map, ht2]; rfl
    rw [is_drop ht2, bpts_two hmv] at hfo
    refine l_want rfl rfl ?_
    refine lM rfl ?_
    refine l_want rfl rfl ?_
    refine lM rfl ?_
    refine l_want rfl rfl ?_
    refine lV (y_bin rfl rfl rfl (fitN (m := i + 1) (by omega) (by omega))) ?_
    refine l_want rfl rfl ?_
    refine lV (y_indexAddrOwn es_25 rfl rfl hlt2) ?_
    refine l_want rfl rfl ?_
    refine lV (y_fieldAddr fo_34_0 rfl) ?_
    refine l_want rfl rfl ?_
    refine lV (y_oldLoad1 ld_3 rfl hg List.not_mem_nil (hcell _ _ (scell_at hts2 (j := 0) rfl))) ?_
    refine l_want rfl rfl ?_
    refine lB rfl rfl rfl rfl ?_
    refine l_want rfl rfl ?_
    refine lV (y_pick rfl rfl rfl) ?_
    refine lV (y_pick rfl rfl rfl) ?_
    refine nQ ?_
    refine c_cond rfl (fun hc34 => ?_) (fun hc34 => ?_)
    ·have hmv2 : t2.isMv = true := by rw [← op_mv]; exact hc34
     have hfo2 : fo bx (bpts (l.drop (i + 1))) = bnd (bpts l) := by rw [hmv2] at hfo; rw [is_drop ht2]; exact hfo
     refine c_exit ?_
     refine q_then_exit ?_
     refine q_block_exit ?_
     refine qG ?_
     refine lV (y_bin rfl rfl rfl (fitN (m := i + 1) (by omega) (by omega))) ?_
     refine lM rfl ?_
     refine l_nil ?_
     exact q_rnd (i + 1, bx) ⟨by simp only; omega, hfo2, hsr⟩ (by simp only; omega) ⟨rfl, rfl, rfl, rfl, rfl, rfl, trivial⟩ (.cons (.there .here) .nil)
    ·have hmv2 : t2.isMv = false := by rw [← op_mv]; exact hc34
     rw [hmv2, ← is_drop ht2] at hfo
     simp only [cond_false] at hfo
     refine kR ?_
     refine lV (y_fieldAddr fo_34_0 rfl) ?_
     refine lV (y_load1 ld_3 rfl m0 rfl) ?_
     refine lV (y_maxE rfl rfl (by rw [mx_pts t])) ?_
     refine lM rfl ?_
     refine nQ ?_
     refine c_block ?_
     refine c_loop (ι := Nat × Bx) (φ := fun z => z.1 ≤ t.pts.length ∧ fo z.2 (t.pts.drop z.1 ++ bpts (l.drop (i + 1))) = bnd (bpts l) ∧ Srt z.2) (L' := fun z => [(0, slV (some (g, sp, cap)) l.length), (2, .pointer (some ⟨b2, 0, none⟩)), (3, .bool z.2.isNone), (5, .pointer (some ⟨b5, 0, none⟩)), (9, slV (some (g, sp, cap)) l.length), (10, .int .i64 (l.length : Nat)), (11, .int .i64 (i : Nat)), (37, .int .i64 (t.pts.length : Nat)), (38, .int .i64 (z.1 : Nat))]) (H' := fun z => [(b5, t.stk.cells, 34), (b2, [.float .f32 (G (bi1 z.2)), .float .f32 (G (bi2 z.2)), .float .f32 (G (bi3 z.2)), .float .f32 (G (bi4 z.2))], 29)]) (fun z => t.pts.length - z.1) (0, bx) ⟨Nat.zero_le _, hfo, hsr⟩ ⟨rfl, rfl, rfl, rfl, rfl, rfl, rfl, rfl, rfl, trivial⟩ (.cons .here (.cons .here .nil)) ?_
     intro ⟨k, bx1⟩ ⟨hk, hf1, hs1⟩
     simp only at hk hf1 hs1 ⊢
     refine cR ?_
     refine lB rfl rfl rfl rfl ?_
     refine nQ ?_
     refine c_seq ?_
     refine c_cond rfl (fun hc39 => ?_) (fun hc39 => ?_)
     ·have hklt : k < t.pts.length := by simp only [decide_eq_true_eq] at hc39; omega
      obtain ⟨⟨x, y⟩, hxy⟩ : ∃ q, t.pts[k]? = some q := ⟨_, List.getElem?_eq_getElem hklt⟩
      obtain ⟨hX, hY⟩ := pt_at hxy
      have hdp : t.pts.drop k = (x, y) :: t.pts.drop (k + 1) := by rw [List.drop_eq_getElem_cons hklt]; congr 1; exact (List.getElem?_eq_some_iff.1 hxy).2
      rw [hdp] at hf1
      obtain ⟨hbd1, hbd2⟩ := fo_bd hB hs1 hf1
      obtain ⟨hx53, hy53⟩ := hbd2 (x, y) (by simp)
      simp only at hx53 hy53
      have hf2 : fo (enl bx1 x y) (t.pts.drop (k + 1) ++ bpts (l.drop (i + 1))) = bnd (bpts l) := hf1
      have hk3 := pts_le t
      refine kQ ?_
      refine c_seq ?_
      refine c_block ?_
      refine cR ?_
      refine lM rfl ?_
      refine lA rfl ?_
      refine nQ ?_
      refine c_seq ?_
      refine c_draw [(b5, t.stk.cells, 34)] mixed rfl ?_
      refine dM 0 rfl rfl ?_
      refine dV 1 rfl (y_fieldAddr fo_34_1 rfl) ?_
      refine dV 2 rfl (y_indexArr (j := k) ar_32 rfl rfl (blt_of (show k < 3 by omega))) ?_
      refine dV 3 rfl (y_load1 ld_28 rfl m0 hX) ?_
      refine dM 4 rfl rfl ?_
      refine dV 5 rfl (y_fieldAddr fo_34_2 rfl) ?_
      refine dV 6 rfl (y_indexArr (j := k) ar_32 rfl rfl (blt_of (show k < 3 by omega))) ?_
      refine dV 7 rfl (y_load1 ld_28 rfl m0 hY) ?_
      refine dV 8 rfl (y_assign rfl) ?_
      refine dV 9 rfl (y_assign rfl) ?_
      refine d_end (by kernel_rfl) (.cons .here .nil) ?_
      refine q_then ?_
      refine c_seq ?_
      refine cR ?_
      refine lM rfl ?_
      refine nQ ?_
      refine c_cond rfl (fun hc49 => ?_) (fun hc49 => ?_)
      ·obtain rfl : bx1 = none := by cases bx1 with | none => rfl | some v => simp at hc49
       refine c_region ?_
       refine lM rfl ?_
       refine lM rfl ?_
       refine lM rfl ?_
       refine lM rfl ?_
       refine lV (y_buildArr (out := [_, _, _, _]) apl_29 rfl rfl rfl) ?_
       refine l_does rfl rfl (g_storeN (vs := [_, _, _, _]) (cs' := [_, _, _, _]) sz_29 rfl rfl rfl rfl rfl rfl rfl (.there .here)) ?_
       intro _ _
       refine lA rfl ?_
       refine nG ?_
       refine lV (y_indexArr (j := 0) ar_29 rfl rfl rfl) ?_
       refine lV (y_load1 ld_28 rfl m1 rfl) ?_
       refine lM rfl ?_
       refine lV (y_minG (show x.natAbs < 2 ^ 53 by omega) (by omega) rfl rfl) ?_
       refine lV (y_indexArr (j := 1) ar_29 rfl rfl rfl) ?_
       refine lV (y_load1 ld_28 rfl m1 rfl) ?_
       refine lM rfl ?_
       refine lV (y_minG (show y.natAbs < 2 ^ 53 by omega) (by omega) rfl rfl) ?_
       refine lV (y_indexArr (j := 2) ar_29 rfl rfl rfl) ?_
       refine lV (y_load1 ld_28 rfl m1 rfl) ?_
       refine lM rfl ?_
       refine lV (y_maxG (show x.natAbs < 2 ^ 53 by omega) (by omega) rfl rfl) ?_
       refine lV (y_indexArr (j := 3) ar_29 rfl rfl rfl) ?_
       refine lV (y_load1 ld_28 rfl m1 rfl) ?_
       refine lM rfl ?_
       refine lV (y_maxG (show y.natAbs < 2 ^ 53 by omega) (by omega) rfl rfl) ?_
       refine lV (y_buildArr (out := [_, _, _, _]) apl_29 rfl rfl rfl) ?_
       refine l_does rfl rfl (g_storeN (vs := [_, _, _, _]) (cs' := [_, _, _, _]) sz_29 rfl rfl rfl rfl rfl rfl rfl (.there .here)) ?_
       intro _ _
       refine l_nil ?_
       refine q_block ?_
       refine qG ?_
       refine lV (y_bin rfl rfl rfl (fitN (m := k + 1) (by omega) (by omega))) ?_
       refine lM rfl ?_
       refine l_nil ?_
       simp only [Int.min_self, Int.max_self]
       exact q_rnd (k + 1, enl none x y) ⟨by simp only; omega, hf2, hs1.enl x y⟩ (by simp only; omega) ⟨rfl, rfl, rfl, rfl, rfl, rfl, rfl, rfl, rfl, trivial⟩ (.cons .here (.cons .here .nil))
      ·obtain ⟨⟨a, b, c, d⟩, rfl⟩ : ∃ v, bx1 = some v := by cases bx1 with | none => simp at hc49 | some v => exact ⟨v, rfl⟩
       have hq := hbd1 a b c d rfl
       refine kG ?_
       refine lV (y_indexArr (j := 0) ar_29 rfl rfl rfl) ?_
       refine lV (y_load1 ld_28 rfl m1 rfl) ?_
       refine lM rfl ?_
       refine lV (y_minG (show (bi1 (some (a, b, c, d))).natAbs < 2 ^ 53 from Nat.lt_of_le_of_lt hq.1 hM) (by omega) rfl rfl) ?_
       refine lV (y_indexArr (j := 1) ar_29 rfl rfl rfl) ?_
       refine lV (y_load1 ld_28 rfl m1 rfl) ?_
       refine lM rfl ?_
       refine lV (y_minG (show (bi2 (some (a, b, c, d))).natAbs < 2 ^ 53 from Nat.lt_of_le_of_lt hq.2.1 hM) (by omega) rfl rfl) ?_
       refine lV (y_indexArr (j := 2) ar_29 rfl rfl rfl) ?_
       refine lV (y_load1 ld_28 rfl m1 rfl) ?_
       refine lM rfl ?_
       refine lV (y_maxG (show (bi3 (some (a, b, c, d))).natAbs < 2 ^ 53 from Nat.lt_of_le_of_lt hq.2.2.1 hM) (by omega) rfl rfl) ?_
       refine lV (y_indexArr (j := 3) ar_29 rfl rfl rfl) ?_
       refine lV (y_load1 ld_28 rfl m1 rfl) ?_
       refine lM rfl ?_
       refine lV (y_maxG (show (bi4 (some (a, b, c, d))).natAbs < 2 ^ 53 from Nat.lt_of_le_of_lt hq.2.2.2 hM) (by omega) rfl rfl) ?_
       refine lV (y_buildArr (out := [_, _, _, _]) apl_29 rfl rfl rfl) ?_
       refine l_does rfl rfl (g_storeN (vs := [_, _, _, _]) (cs' := [_, _, _, _]) sz_29 rfl rfl rfl rfl rfl rfl rfl (.there .here)) ?_
       intro _ _
       refine l_nil ?_
       refine q_block ?_
       refine qG ?_
       refine lV (y_bin rfl rfl rfl (fitN (m := k + 1) (by omega) (by omega))) ?_
       refine lM rfl ?_
       refine l_nil ?_
       exact q_rnd (k + 1, enl (some (a, b, c, d)) x y) ⟨by simp only; omega, hf2, hs1.enl x y⟩ (by simp only; omega) ⟨rfl, rfl, rfl, rfl, rfl, rfl, rfl, rfl, rfl, trivial⟩ (.cons .here (.cons .here .nil))
     ·have hkn : k = t.pts.length := by simp only [decide_eq_false_iff_not] at hc39; omega
      have hf2 : fo bx1 (bpts (l.drop (i + 1))) = bnd (bpts l) := by rw [hkn, List.drop_length, List.nil_append] at hf1; exact hf1
      refine c_exit ?_
      refine q_then_exit ?_
      refine q_rnd_exit ?_
      refine q_block_exit ?_
      refine q_block ?_
      refine qG ?_
      refine lV (y_bin rfl rfl rfl (fitN (m := i + 1) (by omega) (by omega))) ?_
      refine lM rfl ?_
      refine l_nil ?_
      exact q_rnd (i + 1, bx1) ⟨by simp only; omega, hf2, hs1⟩ (by simp only; omega) ⟨rfl, rfl, rfl, rfl, rfl, rfl, trivial⟩ (.cons (.there .here) .nil)
  ·have hmv : t.isMv = false := by rw [← op_mv]; exact hs19
   rw [bpts_run hmv] at hfo
   refine l_not rfl rfl rfl rfl ?_
   refine l_not rfl rfl rfl rfl ?_
   refine l_not rfl rfl rfl rfl ?_
   refine l_not rfl rfl rfl rfl ?_
   refine l_not rfl rfl rfl rfl ?_
   refine l_not rfl rfl rfl rfl ?_
   refine l_notU rfl rfl rfl ?_
   refine l_notU rfl rfl rfl ?_
   refine l_notU rfl rfl rfl ?_
   refine l_notU rfl rfl rfl ?_
   refine l_notU rfl rfl rfl ?_
   refine l_notU rfl rfl rfl ?_
   refine l_notU rfl rfl rfl ?_
   refine l_not rfl rfl rfl rfl ?_
   refine lV (y_pick rfl rfl rfl) ?_
   refine nQ ?_
   refine c_false rfl rfl ?_
   refine kR ?_
   refine lV (y_fieldAddr fo_34_0 rfl) ?_
   refine lV (y_load1 ld_3 rfl m0 rfl) ?_
   refine lV (y_maxE rfl rfl (by rw [mx_pts t])) ?_
   refine lM rfl ?_
   refine nQ ?_
   refine c_block ?_
   refine c_loop (ι := Nat × Bx) (φ := fun z => z.1 ≤ t.pts.length ∧ fo z.2 (t.pts.drop z.1 ++ bpts (l.drop (i + 1))) = bnd (bpts l) ∧ Srt z.2) (L' := fun z => [(0, slV (some (g, sp, cap)) l.length), (2, .pointer (some ⟨b2, 0, none⟩)), (3, .bool z.2.isNone), (5, .pointer (some ⟨b5, 0, none⟩)), (9, slV (some (g, sp, cap)) l.length), (10, .int .i64 (l.length : Nat)), (11, .int .i64 (i : Nat)), (37, .int .i64 (t.pts.length : Nat)), (38, .int .i64 (z.1 : Nat))]) (H' := fun z => [(b5, t.stk.cells, 34), (b2, [.float .f32 (G (bi1 z.2)), .float .f32 (G (bi2 z.2)), .float .f32 (G (bi3 z.2)), .float .f32 (G (bi4 z.2))], 29)]) (fun z => t.pts.length - z.1) (0, bx) ⟨Nat.zero_le _, hfo, hsr⟩ ⟨rfl, rfl, rfl, rfl, rfl, rfl, rfl, rfl, rfl, trivial⟩ (.cons .here (.cons .here .nil)) ?_
   intro ⟨k, bx1⟩ ⟨hk, hf1, hs1⟩
   simp only at hk hf1 hs1 ⊢
   refine cR ?_
   refine lB rfl rfl rfl rfl ?_
   refine nQ ?_
   refine c_seq ?_
   refine c_cond rfl (fun hc39 => ?_) (fun hc39 => ?_)
   ·have hklt : k < t.pts.length := by simp only [decide_eq_true_eq] at hc39; omega
    obtain ⟨⟨x, y⟩, hxy⟩ : ∃ q, t.pts[k]? = some q := ⟨_, List.getElem?_eq_getElem hklt⟩
    obtain ⟨hX, hY⟩ := pt_at hxy
    have hdp : t.pts.drop k = (x, y) :: t.pts.drop (k + 1) := by rw [List.drop_eq_getElem_cons hklt]; congr 1; exact (List.getElem?_eq_some_iff.1 hxy).2
    rw [hdp] at hf1
    obtain ⟨hbd1, hbd2⟩ := fo_bd hB hs1 hf1
    obtain ⟨hx53, hy53⟩ := hbd2 (x, y) (by simp)
    simp only at hx53 hy53
    have hf2 : fo (enl bx1 x y) (t.pts.drop (k + 1) ++ bpts (l.drop (i + 1))) = bnd (bpts l) := hf1
    have hk3 := pts_le t
    refine kQ ?_
    refine c_seq ?_
    refine c_block ?_
    refine cR ?_
    refine lM rfl ?_
    refine lA rfl ?_
    refine nQ ?_
    refine c_seq ?_
    refine c_draw [(b5, t.stk.cells, 34)] mixed rfl ?_
    refine dM 0 rfl rfl ?_
    refine dV 1 rfl (y_fieldAddr fo_34_1 rfl) ?_
    refine dV 2 rfl (y_indexArr (j := k) ar_32 rfl rfl (blt_of (show k < 3 by omega))) ?_
    refine dV 3 rfl (y_load1 ld_28 rfl m0 hX) ?_
    refine dM 4 rfl rfl ?_
    refine dV 5 rfl (y_fieldAddr fo_34_2 rfl) ?_
    refine dV 6 rfl (y_indexArr (j := k) ar_32 rfl rfl (blt_of (show k < 3 by omega))) ?_
    refine dV 7 rfl (y_load1 ld_28 rfl m0 hY) ?_
    refine dV 8 rfl (y_assign rfl) ?_
    refine dV 9 rfl (y_assign rfl) ?_
    refine d_end (by kernel_rfl) (.cons .here .nil) ?_
    refine q_then ?_
    refine c_seq ?_
    refine cR ?_
    refine lM rfl ?_
    refine nQ ?_
    refine c_cond rfl (fun hc49 => ?_) (fun hc49 => ?_)
    ·obtain rfl : bx1 = none := by cases bx1 with | none => rfl | some v => simp at hc49
     refine c_region ?_
     refine lM rfl ?_
     refine lM rfl ?_
     refine lM rfl ?_
     refine lM rfl ?_
     refine lV (y_buildArr (out := [_, _, _, _]) apl_29 rfl rfl rfl) ?_
     refine l_does rfl rfl (g_storeN (vs := [_, _, _, _]) (cs' := [_, _, _, _]) sz_29 rfl rfl rfl rfl rfl rfl rfl (.there .here)) ?_
     intro _ _
     refine lA rfl ?_
     refine nG ?_
     refine lV (y_indexArr (j := 0) ar_29 rfl rfl rfl) ?_
     refine lV (y_load1 ld_28 rfl m1 rfl) ?_
     refine lM rfl ?_
     refine lV (y_minG (show x.natAbs < 2 ^ 53 by omega) (by omega) rfl rfl) ?_
     refine lV (y_indexArr (j := 1) ar_29 rfl rfl rfl) ?_
     refine lV (y_load1 ld_28 rfl m1 rfl) ?_
     refine lM rfl ?_
     refine lV (y_minG (show y.natAbs < 2 ^ 53 by omega) (by omega) rfl rfl) ?_
     refine lV (y_indexArr (j := 2) ar_29 rfl rfl rfl) ?_
     refine lV (y_load1 ld_28 rfl m1 rfl) ?_
     refine lM rfl ?_
     refine lV (y_maxG (show x.natAbs < 2 ^ 53 by omega) (by omega) rfl rfl) ?_
     refine lV (y_indexArr (j := 3) ar_29 rfl rfl rfl) ?_
     refine lV (y_load1 ld_28 rfl m1 rfl) ?_
     refine lM rfl ?_
     refine lV (y_maxG (show y.natAbs < 2 ^ 53 by omega) (by omega) rfl rfl) ?_
     refine lV (y_buildArr (out := [_, _, _, _]) apl_29 rfl rfl rfl) ?_
     refine l_does rfl rfl (g_storeN (vs := [_, _, _, _]) (cs' := [_, _, _, _]) sz_29 rfl rfl rfl rfl rfl rfl rfl (.there .here)) ?_
     intro _ _
     refine l_nil ?_
     refine q_block ?_
     refine qG ?_
     refine lV (y_bin rfl rfl rfl (fitN (m := k + 1) (by omega) (by omega))) ?_
     refine lM rfl ?_
     refine l_nil ?_
     simp only [Int.min_self, Int.max_self]
     exact q_rnd (k + 1, enl none x y) ⟨by simp only; omega, hf2, hs1.enl x y⟩ (by simp only; omega) ⟨rfl, rfl, rfl, rfl, rfl, rfl, rfl, rfl, rfl, trivial⟩ (.cons .here (.cons .here .nil))
    ·obtain ⟨⟨a, b, c, d⟩, rfl⟩ : ∃ v, bx1 = some v := by cases bx1 with | none => simp at hc49 | some v => exact ⟨v, rfl⟩
     have hq := hbd1 a b c d rfl
     refine kG ?_
     refine lV (y_indexArr (j := 0) ar_29 rfl rfl rfl) ?_
     refine lV (y_load1 ld_28 rfl m1 rfl) ?_
     refine lM rfl ?_
     refine lV (y_minG (show (bi1 (some (a, b, c, d))).natAbs < 2 ^ 53 from Nat.lt_of_le_of_lt hq.1 hM) (by omega) rfl rfl) ?_
     refine lV (y_indexArr (j := 1) ar_29 rfl rfl rfl) ?_
     refine lV (y_load1 ld_28 rfl m1 rfl) ?_
     refine lM rfl ?_
     refine lV (y_minG (show (bi2 (some (a, b, c, d))).natAbs < 2 ^ 53 from Nat.lt_of_le_of_lt hq.2.1 hM) (by omega) rfl rfl) ?_
     refine lV (y_indexArr (j := 2) ar_29 rfl rfl rfl) ?_
     refine lV (y_load1 ld_28 rfl m1 rfl) ?_
     refine lM rfl ?_
     refine lV (y_maxG (show (bi3 (some (a, b, c, d))).natAbs < 2 ^ 53 from Nat.lt_of_le_of_lt hq.2.2.1 hM) (by omega) rfl rfl) ?_
     refine lV (y_indexArr (j := 3) ar_29 rfl rfl rfl) ?_
     refine lV (y_load1 ld_28 rfl m1 rfl) ?_
     refine lM rfl ?_
     refine lV (y_maxG (show (bi4 (some (a, b, c, d))).natAbs < 2 ^ 53 from Nat.lt_of_le_of_lt hq.2.2.2 hM) (by omega) rfl rfl) ?_
     refine lV (y_buildArr (out := [_, _, _, _]) apl_29 rfl rfl rfl) ?_
     refine l_does rfl rfl (g_storeN (vs := [_, _, _, _]) (cs' := [_, _, _, _]) sz_29 rfl rfl rfl rfl rfl rfl rfl (.there .here)) ?_
     intro _ _
     refine l_nil ?_
     refine q_block ?_
     refine qG ?_
     refine lV (y_bin rfl rfl rfl (fitN (m := k + 1) (by omega) (by omega))) ?_
     refine lM rfl ?_
     refine l_nil ?_
     exact q_rnd (k + 1, enl (some (a, b, c, d)) x y) ⟨by simp only; omega, hf2, hs1.enl x y⟩ (by simp only; omega) ⟨rfl, rfl, rfl, rfl, rfl, rfl, rfl, rfl, rfl, trivial⟩ (.cons .here (.cons .here .nil))
   ·have hkn : k = t.pts.length := by simp only [decide_eq_false_iff_not] at hc39; omega
    have hf2 : fo bx1 (bpts (l.drop (i + 1))) = bnd (bpts l) := by rw [hkn, List.drop_length, List.nil_append] at hf1; exact hf1
    refine c_exit ?_
    refine q_then_exit ?_
    refine q_rnd_exit ?_
    refine q_block_exit ?_
    refine q_block ?_
    refine qG ?_
    refine lV (y_bin rfl rfl rfl (fitN (m := i + 1) (by omega) (by omega))) ?_
    refine lM rfl ?_
    refine l_nil ?_
    exact q_rnd (i + 1, bx1) ⟨by simp only; omega, hf2, hs1⟩ (by simp only; omega) ⟨rfl, rfl, rfl, rfl, rfl, rfl, trivial⟩ (.cons (.there .here) .nil)
 ·have hin : i = l.length := by simp only [decide_eq_false_iff_not] at hc12; omega
  subst hin
  have hbx : bx = bnd (bpts l) := by rw [List.drop_length] at hfo; exact hfo
  subst hbx
  refine c_exit ?_
  refine q_then_exit ?_
  refine q_rnd_exit ?_
  refine q_block_exit ?_
  refine qR ?_
  refine lV (y_loadN (vs := [_, _, _, _]) ld_29 rfl m0 rfl rfl) ?_
  refine l_does rfl rfl (g_storeN (vs := [_, _, _, _]) (cs' := [_, _, _, _]) sz_29 rfl rfl rfl rfl rfl rfl rfl .here) ?_
  intro _ _
  refine nQ ?_
  refine c_ret ?_
  exact body_ret (rs := [.cell 2 29]) rfl (vs := [.agg #[.float .f32 (G (bi1 (bnd (bpts l)))), .float .f32 (G (bi2 (bnd (bpts l)))), .float .f32 (G (bi3 (bnd (bpts l)))), .float .f32 (G (bi4 (bnd (bpts l))))]]) ⟨⟨_, _, _, _, rfl, (.head _), .inr ⟨4, _, ld_29, rfl, rfl, rfl⟩⟩, trivial⟩ (out_end () trivial rfl .nil) _ (.inr rfl)
theorem floatEq_G {a : Int} (ha : a.natAbs < 2 ^ 53) : Op.floatEq .f32 (G a) (G a) = true := by
  unfold Op.floatEq
  rw [show FloatKind.f32.format.order (G a) (G a) = some (compare (sr a) (sr a)) from order_G ha ha, Int.compare_eq_eq.2 rfl]
  rfl
def StkB : IS → Prop
  | .mv x y => x.natAbs < 2 ^ 53 ∧ y.natAbs < 2 ^ 53
  | .ln x y => x.natAbs < 2 ^ 53 ∧ y.natAbs < 2 ^ 53
  | .cv x0 y0 x1 y1 x2 y2 => (x0.natAbs < 2 ^ 53 ∧ y0.natAbs < 2 ^ 53) ∧ (x1.natAbs < 2 ^ 53 ∧ y1.natAbs < 2 ^ 53) ∧ x2.natAbs < 2 ^ 53 ∧ y2.natAbs < 2 ^ 53
theorem same_refl : ∀ {t : IS}, StkB t → sameS t.stk t.stk = true
  | .mv x y, h => by
    have z : Op.floatEq .f32 0 0 = true := by rw [← G_zero]; exact floatEq_G (by decide)
    simp [sameS, IS.stk, stk1, floatEq_G h.1, floatEq_G h.2, z]
  | .ln x y, h => by
    have z : Op.floatEq .f32 0 0 = true := by rw [← G_zero]; exact floatEq_G (by decide)
    simp [sameS, IS.stk, stk1, floatEq_G h.1, floatEq_G h.2, z]
  | .cv x0 y0 x1 y1 x2 y2, h => by
    simp [sameS, IS.stk, stk3, floatEq_G h.1.1, floatEq_G h.1.2, floatEq_G h.2.1.1, floatEq_G h.2.1.2, floatEq_G h.2.2.1, floatEq_G h.2.2.2]
theorem bpts_mem : ∀ {l : List IS} {t : IS}, t ∈ l → t.isMv = false → ∀ p ∈ t.pts, p ∈ bpts l
  | s :: r, t, hm, ht, p, hp => by
    show p ∈ (bif s.isMv && _ then [] else s.pts) ++ bpts r
    rcases List.mem_cons.1 hm with h | h
    · subst h
      rw [ht]
      exact List.mem_append_left _ hp
    · exact List.mem_append_right _ (bpts_mem h ht p hp)
theorem stkB_of {l : List IS} {M : Nat} (hM : M < 2 ^ 53) (hB : BxBd (bnd (bpts l)) M) (hv : MvB l) {t : IS} (ht : t ∈ l) : StkB t := by
  have hp := (fo_bd hB (r := bpts l) (bx := none) (fun _ _ _ _ h => by cases h) rfl).2
  cases t with
  | mv x y => have := hv x y ht; exact ⟨by omega, by omega⟩
  | ln x y => have h := hp (x, y) (bpts_mem ht rfl (x, y) (by simp [IS.pts])); exact ⟨Nat.lt_of_le_of_lt h.1 hM, Nat.lt_of_le_of_lt h.2 hM⟩
  | cv x0 y0 x1 y1 x2 y2 =>
    have h0 := hp (x0, y0) (bpts_mem ht rfl (x0, y0) (by simp [IS.pts]))
    have h1 := hp (x1, y1) (bpts_mem ht rfl (x1, y1) (by simp [IS.pts]))
    have h2 := hp (x2, y2) (bpts_mem ht rfl (x2, y2) (by simp [IS.pts]))
    exact ⟨⟨Nat.lt_of_le_of_lt h0.1 hM, Nat.lt_of_le_of_lt h0.2 hM⟩, ⟨Nat.lt_of_le_of_lt h1.1 hM, Nat.lt_of_le_of_lt h1.2 hM⟩, Nat.lt_of_le_of_lt h2.1 hM, Nat.lt_of_le_of_lt h2.2 hM⟩
theorem scell_row : ∀ {l : List Stk} {i : Nat} {s : Stk} (sp : List Value), l[i]? = some s → ((encS l ++ sp).drop (i * 7)).take 7 = s.cells
  | [], i, s, _, h => by simp at h
  | x :: r, 0, s, sp, h => by
    simp at h
    subst h
    rfl
  | x :: r, i + 1, s, sp, h => by
    have e : encS (x :: r) ++ sp = Stk.cells x ++ (encS r ++ sp) := by simp [encS]
    rw [e, List.drop_append, List.drop_of_length_le (show (Stk.cells x).length ≤ (i + 1) * 7 by have : (Stk.cells x).length = 7 := rfl; omega), List.nil_append, show (i + 1) * 7 - (Stk.cells x).length = i * 7 by have : (Stk.cells x).length = 7 := rfl; omega]
    exact scell_row sp (by simpa using h)
theorem box_eq {a b c d : Int} {M : Nat} (hM : M < 2 ^ 53) (h : a.natAbs ≤ M ∧ b.natAbs ≤ M ∧ c.natAbs ≤ M ∧ d.natAbs ≤ M) (w : World) : (Op.equal 29 (.agg #[.float .f32 (G a), .float .f32 (G b), .float .f32 (G c), .float .f32 (G d)]) (.agg #[.float .f32 (G a), .float .f32 (G b), .float .f32 (G c), .float .f32 (G d)])).run Tryz.prog w = .ok true w := by
  have h1 := eqArr 9998 4 29 un29 (.inr rfl) [G a, G b, G c, G d] [G a, G b, G c, G d] rfl rfl w
  have h2 : (List.zipWith (Op.floatEq .f32) [G a, G b, G c, G d] [G a, G b, G c, G d]).all id = true := by
    simp [floatEq_G (show a.natAbs < 2 ^ 53 by omega), floatEq_G (show b.natAbs < 2 ^ 53 by omega), floatEq_G (show c.natAbs < 2 ^ 53 by omega), floatEq_G (show d.natAbs < 2 ^ 53 by omega)]
  rw [h2] at h1
  exact h1
theorem RunR.done {los gls : List (List Nat)} {c c2 : CSt} {b : List Nat} (h : RunR los gls c b c2) : c.ended = false → c.deep = 0 → c2.ended = true := by
  induction h with
  | ended he => intro h0; rw [he] at h0; cases h0
  | num _ _ _ _ _ _ ih => exact ih
  | ret _ _ h3 => intro _ h0; omega
  | @call c v r s k sub c1 c' h1 _ _ _ _ _ _ _ hr2 _ ih2 =>
    intro _ h0
    cases he : c1.ended with
    | true => rw [hr2.stop he]; exact he
    | false => exact ih2 he h0
  | flex _ _ _ _ _ ih => exact ih
  | mask _ _ _ _ _ _ _ ih => exact ih
  | @op c v r c1 c' h1 _ _ _ _ _ _ _ _ ho hr ih =>
    intro h0 hd
    rcases ho.ends h1 with ⟨_, he⟩ | ⟨_, he⟩
    · rw [hr.stop he]; exact he
    · exact ih he (by rw [show c1.deep = c.deep by cases ho <;> rfl]; exact hd)
theorem RdX.own2 {w0 w : World} {S : List Nat} {so : Sv} {xs : List Value} {e : TypeId} {B T : Heap} (h : Hp w0 S (B ++ (slH so xs e ++ T)) w) : RdX w [] so xs := by
  have hp : (B ++ (slH so xs e ++ T)).Perm ((B ++ T) ++ slH so xs e) := by
    rw [List.append_assoc]
    exact List.perm_append_comm.append_left B
  exact (RdX.own (h.perm hp)).weak
theorem y_boolE {P : Program} {n : Nat} {D : List Deferred} {w0 : World} {S : List Nat} {o : Oper} {L : Slots} {H : Heap} {b c : Bool} (h : Go.Eng.Yields P n D w0 S o L H (.bool b)) (e : b = c) : Go.Eng.Yields P n D w0 S o L H (.bool c) := e ▸ h
theorem f4_any (w : World) (A : Option Addr) (cl : Nat) (bss : List (List Nat)) (hlen : bss.length ≤ 9223372036854775807) (hLo : RdL w [] A bss) : Calls Tryz.prog 4 [.slice A bss.length cl].toArray w (Out w [] (fun z : Bool => True) (fun z => .bool z) (fun z => [])) := by
 refine enter (n := 18) Tryz.func4 rfl rfl rfl (Hp.refl w) ?_
 refine cR ?_
 refine lA rfl ?_
 refine nQ ?_
 refine c_seq ?_
 refine cR ?_
 refine lM rfl ?_
 refine lV (y_len sl_23 rfl) ?_
 refine lB rfl rfl rfl rfl ?_
 refine nQ ?_
 refine c_cond rfl (fun hc7 => ?_) (fun hc7 => ?_)
 ·refine cR ?_
  refine lA rfl ?_
  refine nQ ?_
  refine c_ret ?_
  refine q_then_ret ?_
  exact body_ret (rs := [.tmp 2]) rfl (vs := [.bool false]) ⟨rfl, trivial⟩ (out_end false trivial rfl .nil) _ (.inr rfl)
 ·refine kQ ?_
  refine c_seq ?_
  refine cR ?_
  refine lM rfl ?_
  refine lV (y_len sl_23 rfl) ?_
  refine lM rfl ?_
  refine nQ ?_
  refine c_block ?_
  refine c_loop (ι := Nat) (φ := fun z => z ≤ bss.length) (L' := fun z => [(8, .slice A bss.length cl), (9, .int .i64 (bss.length : Nat)), (10, .int .i64 (z : Nat))]) (H' := fun _ => []) (fun z => bss.length - z) 0 (Nat.zero_le _) ⟨rfl, rfl, rfl, trivial⟩ .nil ?_
  intro i hi
  refine cR ?_
  refine lB rfl rfl rfl rfl ?_
  refine nQ ?_
  refine c_seq ?_
  refine c_cond rfl (fun hc11 => ?_) (fun hc11 => ?_)
  ·have hlt : i < bss.length := by simp only [decide_eq_true_eq] at hc11; omega
   obtain ⟨bs, hbs⟩ : ∃ s, bss[i]? = some s := ⟨_, List.getElem?_eq_getElem hlt⟩
   obtain ⟨⟨p, rfl, hpb, hpS, Ai, ci, hc, _, _⟩, _⟩ := hLo i bs hbs
   refine kQ ?_
   refine c_seq ?_
   refine c_block ?_
   refine cR ?_
   refine lV (y_indexAddr (j := i) es_23 rfl rfl hlt) ?_
   refine lV (y_oldLoad1 ld_22 rfl (by rw [block_add]; exact hpb) (by rw [block_add]; exact hpS) hc) ?_
   refine lA rfl ?_
   refine nR ?_
   refine lM rfl ?_
   refine lV (y_len sl_22 rfl) ?_
   refine lB rfl rfl rfl rfl ?_
   refine nQ ?_
   refine c_cond rfl (fun hc16 => ?_) (fun hc16 => ?_)
   ·refine cR ?_
    refine lA rfl ?_
    refine nQ ?_
    refine c_ret ?_
    refine q_block_ret ?_
    refine q_then_ret ?_
    refine q_rnd_ret ?_
    refine q_block_ret ?_
    refine q_then_ret ?_
    exact body_ret (rs := [.tmp 2]) rfl (vs := [.bool false]) ⟨rfl, trivial⟩ (out_end false trivial rfl .nil) _ (.inr rfl)
   ·refine c_skip ?_
    refine q_block ?_
    refine qG ?_
    refine lV (y_bin rfl rfl rfl (fitN (m := i + 1) (by omega) (by omega))) ?_
    refine lM rfl ?_
    refine l_nil ?_
    exact q_rnd (i + 1) hlt (by omega) ⟨rfl, rfl, rfl, trivial⟩ .nil
  ·refine c_exit ?_
   refine q_then_exit ?_
   refine q_rnd_exit ?_
   refine q_block_exit ?_
   refine qR ?_
   refine lA rfl ?_
   refine nQ ?_
   refine c_ret ?_
   exact body_ret (rs := [.tmp 2]) rfl (vs := [.bool true]) ⟨rfl, trivial⟩ (out_end true trivial rfl .nil) _ (.inr rfl)
set_option maxHeartbeats 8000000 in
theorem f3_any (w : World) (A Alo Agl : Option Addr) (cl cLo cGl : Nat) (b : List Nat) (los gls : List (List Nat)) (hRB : RdB w [] A b) (hcl : b.length ≤ cl) (hu : ∀ u ∈ b, u < 256) (hLo : RdL w [] Alo los) (hGl : RdL w [] Agl gls) (hl2 : los.length ≤ 9223372036854775807) (hl3 : gls.length ≤ 9223372036854775807) : Calls Tryz.prog 3 [.slice A b.length cl, (.slice Alo los.length cLo), (.slice Agl gls.length cGl)].toArray w (Out w [] (fun z : Unit => True) (fun z => .bool true) (fun z => [])) := by
 refine enter (n := 76) Tryz.func3 rfl rfl rfl (Hp.refl w) ?_
 refine cR ?_
 refine lA rfl ?_
 refine nQ ?_
 refine c_seq ?_
 refine cR ?_
 refine lM rfl ?_
 refine lV (y_len sl_22 rfl) ?_
 refine lB rfl rfl rfl rfl ?_
 refine lM rfl ?_
 refine l_split (t := 17) rfl rfl (fun hs17 => ?_) (fun hs17 => ?_)
 ·refine l_not rfl rfl rfl rfl ?_
  refine l_not rfl rfl rfl rfl ?_
  refine l_not rfl rfl rfl rfl ?_
  refine lV (y_pick rfl rfl rfl) ?_
  refine lM rfl ?_
  refine l_not rfl rfl rfl rfl ?_
  refine l_not rfl rfl rfl rfl ?_
  refine l_not rfl rfl rfl rfl ?_
  refine lV (y_pick rfl rfl rfl) ?_
  refine nQ ?_
  refine c_true rfl rfl ?_
  refine cR ?_
  refine lA rfl ?_
  refine nQ ?_
  refine c_ret ?_
  refine q_then_ret ?_
  exact body_ret (rs := [.tmp 6]) rfl (vs := [.bool true]) ⟨rfl, trivial⟩ (out_end () trivial rfl .nil) _ (.inr rfl)
 ·refine l_want rfl rfl ?_
  refine lM rfl ?_
  refine l_want rfl rfl ?_
  refine l_call ok_4 rfl rfl (out_keepH (fun w1 hw1 => f4_any w1 Alo cLo los hl2 (hLo.empty hw1))) ?_
  intro v1 _
  refine l_want rfl rfl ?_
  refine lV (y_not rfl) ?_
  refine lV (y_pick rfl rfl rfl) ?_
  refine lM rfl ?_
  refine l_split (t := 22) rfl rfl (fun hs22 => ?_) (fun hs22 => ?_)
  ·refine l_not rfl rfl rfl rfl ?_
   refine l_not rfl rfl rfl rfl ?_
   refine l_not rfl rfl rfl rfl ?_
   refine lV (y_pick rfl rfl rfl) ?_
   refine nQ ?_
   refine c_true rfl rfl ?_
   refine cR ?_
   refine lA rfl ?_
   refine nQ ?_
   refine c_ret ?_
   refine q_then_ret ?_
   exact body_ret (rs := [.tmp 6]) rfl (vs := [.bool true]) ⟨rfl, trivial⟩ (out_end () trivial rfl .nil) _ (.inr rfl)
  ·refine l_want rfl rfl ?_
   refine lM rfl ?_
   refine l_want rfl rfl ?_
   refine l_call ok_4 rfl rfl (out_keepH (fun w1 hw1 => f4_any w1 Agl cGl gls hl3 (hGl.empty hw1))) ?_
   intro v2 _
   refine l_want rfl rfl ?_
   refine lV (y_not rfl) ?_
   refine lV (y_pick rfl rfl rfl) ?_
   refine nQ ?_
   refine c_cond rfl (fun hc26 => ?_) (fun hc26 => ?_)
   ·refine cR ?_
    refine lA rfl ?_
    refine nQ ?_
    refine c_ret ?_
    refine q_then_ret ?_
    exact body_ret (rs := [.tmp 6]) rfl (vs := [.bool true]) ⟨rfl, trivial⟩ (out_end () trivial rfl .nil) _ (.inr rfl)
   ·refine kR ?_
    refine lM rfl ?_
    refine lM rfl ?_
    refine lM rfl ?_
    refine l_call ok_5 rfl rfl (out_new (fun w1 hw1 => f5_any w1 A Alo Agl cl cLo cGl b los gls (hRB.empty hw1) hcl hu (hLo.empty hw1) (hGl.empty hw1))) ?_
    intro ⟨dec, out, so⟩ hdec
    simp only at hdec ⊢
    refine lM rfl ?_
    refine lV (y_extract rfl rfl) ?_
    refine lV (y_extract rfl rfl) ?_
    refine lA rfl ?_
    refine lA rfl ?_
    refine nQ ?_
    refine c_seq ?_
    refine cR ?_
    refine lM rfl ?_
    refine lV (y_not rfl) ?_
    refine nQ ?_
    refine c_cond rfl (fun hc35 => ?_) (fun hc35 => ?_)
    ·refine cR ?_
     refine lA rfl ?_
     refine nQ ?_
     refine c_ret ?_
     refine q_then_ret ?_
     exact body_ret (rs := [.tmp 6]) rfl (vs := [.bool true]) ⟨rfl, trivial⟩ (out_end () trivial rfl .nil) _ (.inr rfl)
    ·have hd1 : dec = true := by simpa using hc35
     subst hd1
     obtain ⟨_, h3, c, hR, hout, hI, hok⟩ | ⟨hd, _⟩ := hdec
     rotate_left 1
     · cases hd
     subst hout
     obtain ⟨n, hF⟩ := hR.flat rfl [] c.p (fun _ => rfl) (fun h => by rw [hR.done rfl rfl] at h; cases h)
     have hpl : c.p.out.length ≤ 70000 := by have h1 := hI.out; have h2 := hI.ops; omega
     refine kR ?_
     refine lM rfl ?_
     refine lM rfl ?_
     refine lM rfl ?_
     refine l_call ok_6 rfl rfl (out_new (fun w1 hw1 => f6_any w1 n A Alo Agl cl cLo cGl b los gls c.p (hRB.empty hw1) hcl hu (hLo.empty hw1) (hGl.empty hw1) h3 hF hpl)) ?_
     intro ⟨so2, bx⟩ ⟨⟨l, ⟨hl, hmv⟩, hbx⟩, hok2, hbd⟩
     simp only at hl hbx hok2 hbd ⊢
     rw [hl] at hpl hok hok2 ⊢
     rw [List.length_map] at hpl hok hok2 ⊢
     subst hbx
     refine l_perm (H' := slH so (encS (l.map IS.stk)) 34 ++ slH so2 (encS (l.map IS.stk)) 34) (.refl _) ?_
     refine lM rfl ?_
     refine lV (y_extract rfl rfl) ?_
     refine lV (y_extract rfl rfl) ?_
     refine lV (y_extract rfl rfl) ?_
     refine l_gives rfl rfl (g_alloc ze_29) rfl ?_
     intro b10 hb10
     refine lA rfl ?_
     refine l_does rfl rfl (g_storeN (vs := [_, _, _, _]) (cs' := [_, _, _, _]) sz_29 rfl rfl rfl rfl rfl rfl rfl .here) ?_
     intro _ _
     refine lA rfl ?_
     refine nQ ?_
     refine c_seq ?_
     refine cR ?_
     refine lM rfl ?_
     refine lV (y_not rfl) ?_
     refine lM rfl ?_
     refine l_want rfl rfl ?_
     refine lM rfl ?_
     refine l_want rfl rfl ?_
     refine lV (y_lenSv sl_25 rfl (slOk.nil hok2)) ?_
     refine l_want rfl rfl ?_
     refine lM rfl ?_
     refine l_want rfl rfl ?_
     refine lV (y_lenSv sl_25 rfl (slOk.nil hok)) ?_
     refine l_want rfl rfl ?_
     refine lB rfl rfl rfl rfl ?_
     refine lV (y_pick rfl rfl rfl) ?_
     refine nQ ?_
     refine c_false rfl (bne_self_eq_false _) ?_
     refine kQ ?_
     refine c_seq ?_
     refine cR ?_
     refine lM rfl ?_
     refine lV (y_lenSv sl_25 rfl (slOk.nil hok2)) ?_
     refine lM rfl ?_
     refine nQ ?_
     refine c_block ?_
     refine c_loop (ι := Nat) (φ := fun z => z ≤ l.length) (L' := fun z => [(7, slV so l.length), (10, .pointer (some ⟨b10, 0, none⟩)), (53, slV so2 l.length), (54, .int .i64 (l.length : Nat)), (55, .int .i64 (z : Nat))]) (H' := fun _ => (b10, [.float .f32 (G (bi1 (bnd (bpts l)))), .float .f32 (G (bi2 (bnd (bpts l)))), .float .f32 (G (bi3 (bnd (bpts l)))), .float .f32 (G (bi4 (bnd (bpts l))))], 29) :: (slH so (encS (l.map IS.stk)) 34 ++ slH so2 (encS (l.map IS.stk)) 34)) (fun z => l.length - z) 0 (Nat.zero_le _) ⟨rfl, rfl, rfl, rfl, rfl, trivial⟩ (.cons .here .refl) ?_
     intro i hi
     refine cR ?_
     refine lB rfl rfl rfl rfl ?_
     refine nQ ?_
     refine c_seq ?_
     refine c_cond rfl (fun hc56 => ?_) (fun hc56 => ?_)
     ·have hlt : i < l.length := by simp only [decide_eq_true_eq] at hc56; omega
      obtain ⟨g, sp, cap, rfl⟩ := sv_some hok (by omega)
      obtain ⟨g2, sp2, cap2, rfl⟩ := sv_some hok2 (by omega)
      obtain ⟨t, ht⟩ : ∃ t, l[i]? = some t := ⟨_, List.getElem?_eq_getElem hlt⟩
      have hts : (l.map IS.stk)[i]? = some t.stk := by rw [List.getElem?_map, ht]; rfl
      have hsame := same_refl (stkB_of (by decide) hbd hmv (List.mem_of_getElem? ht))
      refine kQ ?_
      refine c_seq ?_
      refine c_block ?_
      refine cR ?_
      refine lM rfl ?_
      refine lV (y_indexAddrOwn es_25 rfl rfl hlt) ?_
      refine lV (y_loadN (vs := t.stk.cells) (g := g2) (cs := encS (l.map IS.stk) ++ sp2) (e := 34) ld_34 rfl (.tail _ (.tail _ (.head _))) (scell_row sp2 hts) rfl) ?_
      refine l_gives rfl rfl (g_alloc ze_34) rfl ?_
      intro b13 hb13
      refine lA rfl ?_
      refine l_does rfl rfl (g_storeN (vs := t.stk.cells) (cs' := t.stk.cells) sz_34 rfl rfl rfl rfl rfl rfl rfl .here) ?_
      intro _ _
      refine nQ ?_
      refine c_seq ?_
      refine c_drawH mixed rfl ?_
      refine dV 0 rfl (y_loadN (vs := t.stk.cells) (cs := t.stk.cells) ld_34 rfl (.head _) rfl rfl) ?_
      refine dM 1 rfl rfl ?_
      refine dM 2 rfl rfl ?_
      refine dV 3 rfl (y_indexAddrOwn es_25 rfl rfl hlt) ?_
      refine dV 4 rfl (y_loadN (vs := t.stk.cells) (g := g) (cs := encS (l.map IS.stk) ++ sp) (e := 34) ld_34 rfl (.tail _ (.tail _ (.head _))) (scell_row sp hts) rfl) ?_
      refine dV 5 rfl (y_boolE (y_neqA eg34 (eq34 9997 t.stk t.stk) rfl rfl) (show (!sameS t.stk t.stk) = false by rw [hsame]; rfl)) ?_
      refine d_end (by kernel_rfl) (.cons .here (.cons .here .refl)) ?_
      refine q_then ?_
      refine c_false rfl rfl ?_
      refine c_skip ?_
      refine q_block ?_
      refine qG ?_
      refine lV (y_bin rfl rfl rfl (fitN (m := i + 1) (by omega) (by omega))) ?_
      refine lM rfl ?_
      refine l_nil ?_
      exact q_rnd (i + 1) hlt (by omega) ⟨rfl, rfl, rfl, rfl, rfl, trivial⟩ (.cons (.there .here) (.skip .refl))
     ·refine c_exit ?_
      refine q_then_exit ?_
      refine q_rnd_exit ?_
      refine q_block_exit ?_
      refine q_then ?_
      refine c_seq ?_
      have hbb := bi_bd hbd
      by_cases hn0 : l.length = 0
      ·refine c_drawH mixed rfl ?_
       refine dM 0 rfl rfl ?_
       refine dV 1 rfl (y_lenSv sl_25 rfl (slOk.nil hok)) ?_
       refine dV 2 rfl (y_boolE (y_bin rfl rfl rfl rfl) (show (((l.length : Nat) : Int) == 0) = true from by rw [hn0]; rfl)) ?_
       refine dM 3 rfl rfl ?_
       refine d_skip (i := 4) rfl (by kernel_rfl) (by kernel_rfl) (by kernel_rfl) rfl (is_not rfl rfl rfl rfl) rfl (fun _ _ _ h => h) ?_
       refine d_skip (i := 5) rfl (by kernel_rfl) (by kernel_rfl) (by kernel_rfl) rfl (is_not rfl rfl rfl rfl) rfl (fun _ _ _ h => h) ?_
       refine d_skip (i := 6) rfl (by kernel_rfl) (by kernel_rfl) (by kernel_rfl) rfl (is_not rfl rfl rfl rfl) rfl (fun _ _ _ h => h) ?_
       refine d_skip (i := 7) rfl (by kernel_rfl) (by kernel_rfl) (by kernel_rfl) rfl (is_not rfl rfl rfl rfl) rfl (fun _ _ _ h => h) ?_
       refine dV 8 rfl (y_pick rfl rfl rfl) ?_
       refine dV 9 rfl (y_assign rfl) ?_
       refine d_end (by kernel_rfl) (.cons .here .refl) ?_
       refine q_then ?_
       refine c_ret ?_
       exact body_ret (rs := [.tmp 6]) rfl (vs := [.bool true]) ⟨rfl, trivial⟩ (out_end () trivial rfl .nil) _ (.inr rfl)
      ·refine c_drawH mixed rfl ?_
       refine dM 0 rfl rfl ?_
       refine dV 1 rfl (y_lenSv sl_25 rfl (slOk.nil hok)) ?_
       refine dV 2 rfl (y_boolE (y_bin rfl rfl rfl rfl) (show (((l.length : Nat) : Int) == 0) = false from by rw [beq_eq_false_iff_ne]; omega)) ?_
       refine dM 3 rfl rfl ?_
       refine d_val (i := 4) rfl (by kernel_rfl) (by kernel_rfl) (by kernel_rfl) (y_loadN (vs := [_, _, _, _]) ld_29 rfl (.head _) rfl rfl) rfl (is_wanted rfl rfl rfl) rfl (fun _ _ _ h => h) ?_
       refine d_val (i := 5) rfl (by kernel_rfl) (by kernel_rfl) (by kernel_rfl) (y_move rfl) rfl (is_wanted rfl rfl rfl) rfl (fun _ _ _ h => h) ?_
       refine d_ready (i := 6) (rs := []) (by kernel_rfl) (.cons .here .refl) (all_one ?_)
       refine o_call rfl (is_wanted rfl rfl rfl) ok_7 rfl rfl (out_keepH (fun w1 hw1 => f7_any w1 l (2000 * 128849018880) (by decide) hbd so hok hpl (RdX.own2 (B := [_]) hw1))) ?_
       intro _ _
       refine d_val (i := 7) rfl (by kernel_rfl) (by kernel_rfl) (by kernel_rfl) (y_eqlA eg29 (box_eq (by decide) hbb) rfl rfl) rfl (is_wanted rfl rfl rfl) rfl (fun _ _ _ h => h) ?_
       refine dV 8 rfl (y_pick rfl rfl rfl) ?_
       refine dV 9 rfl (y_assign rfl) ?_
       refine d_end (by kernel_rfl) (.cons .here .refl) ?_
       refine q_then ?_
       refine c_ret ?_
       exact body_ret (rs := [.tmp 6]) rfl (vs := [.bool true]) ⟨rfl, trivial⟩ (out_end () trivial rfl .nil) _ (.inr rfl)
end Go.Proofs.YtbepljmeflndkaaGreatDoor
namespace Go.Proofs.YtbepljmeflndkaaGreatDoor
open Go.ChangeShapes Go.WideShapes Go.Deep
section
variable {H : Type} {enc : TypeId × Value → H} {w : World} {base : Nat} {spare : Nat → Bool} {held : Bool}
theorem cells5 : Tryz.prog.cellsOf 5 = 1 := by kernel_rfl
theorem cells22 : Tryz.prog.cellsOf 22 = 1 := by kernel_rfl
theorem choose_list {α : Type} {Q : Nat → α → Prop} : ∀ n : Nat, (∀ i, i < n → ∃ x, Q i x) → ∃ l : List α, l.length = n ∧ ∀ i x, l[i]? = some x → Q i x := by
  intro n
  induction n with
  | zero => intro _; exact ⟨[], rfl, fun i x h => by simp at h⟩
  | succ n ih =>
    intro h
    obtain ⟨l, hl, hq⟩ := ih (fun i hi => h i (by omega))
    obtain ⟨x, hx⟩ := h n (by omega)
    refine ⟨l ++ [x], by simp [hl], fun i y hy => ?_⟩
    rcases Nat.lt_or_ge i n with hlt | hge
    · rw [List.getElem?_append_left (by omega)] at hy; exact hq i y hy
    · have : i = n := by
        rcases Nat.lt_or_ge i (n + 1) with h1 | h1
        · omega
        · rw [List.getElem?_eq_none (by simp; omega)] at hy; cases hy
      subst this
      rw [List.getElem?_append_right (by omega), hl, Nat.sub_self] at hy
      simp at hy
      subst hy
      exact hx
theorem cell_lt {w : World} {a : Addr} {v : Value} (h : w.cell? a = some v) : a.block < w.heap.size := by
  unfold World.cell? at h
  rcases Nat.lt_or_ge a.block w.heap.size with hl | hl
  · exact hl
  · rw [Array.getElem?_eq_none hl] at h; cases h
/-- A slice of bytes, read as data: a list of small numbers lies there. -/
theorem bytes_of {a0 : Option Addr} {len cap : Nat} {d : DataW H} {p : List MemPlace} (h : DataW.Trod enc Tryz.prog w base spare held 22 (.slice a0 len cap) d p) : ∃ b : List Nat, b.length = len ∧ len ≤ cap ∧ (∀ u ∈ b, u < 256) ∧ RdB w [] a0 b := by
  obtain ⟨fuel, hf⟩ := h
  rcases open_slice Tryz.underlying22 hf with ⟨hcs, _⟩ | ⟨a, l, c, m, n, D, Pl, hcs, _, hl, _, hmm, _, hi⟩
  · simp [Value.cells] at hcs
    obtain ⟨rfl, rfl, rfl⟩ := hcs
    exact ⟨[], rfl, Nat.le_refl _, fun u hu => (by cases hu), fun i g hg => by simp at hg⟩
  · simp [Value.cells] at hcs
    obtain ⟨rfl, rfl, rfl⟩ := hcs
    have hml : len ≤ m := by rw [hmm]; split <;> omega
    have hex : ∀ i, i < len → ∃ x : Nat, x < 256 ∧ w.cell? (a.add i) = some (.int .u8 (x : Nat)) := by
      intro i hil
      obtain ⟨cs', hc, ht⟩ := hi i (by omega)
      obtain ⟨x, e0, _, hwf⟩ := DataW.trod_int Tryz.underlying5 ht
      have hx : 0 ≤ x ∧ x ≤ 255 := by simpa [Lit.wf, IntKind.min, IntKind.max, IntKind.signed, IntKind.bits] using hwf
      rw [cells5] at hc
      obtain ⟨_, hcl, hat⟩ := World.cells?_some hc
      have := hat 0 (by omega)
      rw [e0, Nat.mul_one, Eng.add_add, Nat.add_zero] at this
      exact ⟨x.toNat, by omega, by rw [this, show ((x.toNat : Nat) : Int) = x by omega]; rfl⟩
    obtain ⟨ls, hls, hq⟩ := choose_list len hex
    refine ⟨ls, hls, hl, fun u hu => ?_, fun i g hg => ⟨a, rfl, ?_, List.not_mem_nil, (hq i g hg).2⟩⟩
    · obtain ⟨i, hi⟩ := List.mem_iff_getElem?.1 hu
      exact (hq i u hi).1
    · have := cell_lt (hq i g hg).2
      rwa [Eng.block_add] at this
theorem lists_of {a0 : Option Addr} {len cap : Nat} {d : DataW H} {p : List MemPlace} (h : DataW.Trod enc Tryz.prog w base spare held 23 (.slice a0 len cap) d p) : ∃ bss : List (List Nat), bss.length = len ∧ len ≤ maxLen ∧ RdL w [] a0 bss := by
  obtain ⟨fuel, hf⟩ := h
  rcases open_slice Tryz.underlying23 hf with ⟨hcs, _⟩ | ⟨a, l, c, m, n, D, Pl, hcs, _, hl, hcm, hmm, _, hi⟩
  · simp [Value.cells] at hcs
    obtain ⟨rfl, rfl, rfl⟩ := hcs
    exact ⟨[], rfl, Nat.zero_le _, fun i g hg => by simp at hg⟩
  · simp [Value.cells] at hcs
    obtain ⟨rfl, rfl, rfl⟩ := hcs
    have hml : len ≤ m := by rw [hmm]; split <;> omega
    have hex : ∀ i, i < len → ∃ x : List Nat, ∃ A' cap', x.length ≤ cap' ∧ (∀ u ∈ x, u < 256) ∧ RdB w [] A' x ∧ w.cell? (a.add i) = some (.slice A' x.length cap') := by
      intro i hil
      obtain ⟨cs', hc, ht⟩ := hi i (by omega)
      rw [cells22] at hc
      obtain ⟨_, hcl, hat⟩ := World.cells?_some hc
      have hat0 := hat 0 (by omega)
      rw [Nat.mul_one, Eng.add_add, Nat.add_zero] at hat0
      rcases open_slice Tryz.underlying22 ht with ⟨e0, _⟩ | ⟨a2, l2, c2, _, _, _, _, e0, _, hl2, _, _, _, _⟩
      · refine ⟨[], none, 0, Nat.le_refl _, fun u hu => (by cases hu), fun i g hg => by simp at hg, ?_⟩
        rw [hat0, e0]; rfl
      · have hT : DataW.Trod enc Tryz.prog w base spare held 22 (.slice (some a2) l2 c2) (D i) (Pl i) := ⟨n, by rw [e0] at ht; exact ht⟩
        obtain ⟨ls, hls, hlc, hu, hR⟩ := bytes_of hT
        refine ⟨ls, some a2, c2, by omega, hu, hR, ?_⟩
        rw [hat0, e0, hls]; rfl
    obtain ⟨ls, hls, hq⟩ := choose_list len hex
    refine ⟨ls, hls, Nat.le_trans hl hcm, fun i g hg => ?_⟩
    obtain ⟨A', cap', h1, hu, h2, h3⟩ := hq i g hg
    refine ⟨⟨a, rfl, ?_, List.not_mem_nil, A', cap', by rw [Nat.mul_one]; exact h3, h2, h1⟩, hu⟩
    have := cell_lt h3
    rwa [Eng.block_add] at this
end
end Go.Proofs.YtbepljmeflndkaaGreatDoor
namespace Go.Proofs.YtbepljmeflndkaaGreatDoor
open Go.ChangeShapes Go.WideShapes Go.ChangeAt Go.RowKit
theorem Tryz.own : ownKnob Tryz.prog.godebug = none := by kernel_rfl
theorem Tryz.laidOut : laidOutB Tryz.prog = true := by kernel_rfl
theorem below_of {w w' : World} {H : Eng.Heap} (h : Eng.Hp w [] H w') : Below w.heap.size w w' := ⟨h.os, h.tape, h.output, h.size, fun k hk => h.old k hk List.not_mem_nil⟩
set_option maxRecDepth 100000 in
theorem fnCharstring_lifted (os : Os) (started : os.Started) (H : Type) (enc : TypeId × Value → H) :
    ReturnsInHanded {} Tryz.checked os 3 .any (fun w args => (Rows.fnCharstringSpec.pre enc Tryz.prog Tryz.f3 Rows.fnCharstringRow.domain false w args ∧ laidMetH Tryz.prog Rows.fnCharstringRow.laid w) ∧ sizedMet enc Tryz.prog Tryz.f3 (OpenSpec.ofChange Rows.fnCharstringSpec) false w args)
      (Rows.fnCharstringSpec.post enc Tryz.prog Tryz.f3 false true false false) := by
  refine returnsInHanded_of_change_and (C := Tryz.checked) (X := fun w _ => laidMetH Tryz.prog Rows.fnCharstringRow.laid w) (fun _ _ _ hh h => h.of_heap hh) Tryz.own started (by kernel_rfl) Tryz.func3
    (ChangeSpec.witness_shaped (enc := enc) (C := Tryz.checked) (os := os) (X := fun w _ => laidMetH Tryz.prog Rows.fnCharstringRow.laid w) false (World.laidAll Tryz.prog os Rows.fnCharstringRow.laid) #[.slice none 0 0, .slice none 0 0, .slice none 0 0] 8 (World.laidAll_os _ _ _)
      (World.shaped_of_ZipB (by kernel_rfl) (by kernel_rfl)) (by kernel_rfl) (by kernel_rfl) (by kernel_rfl)
      (by rw [MakeChecks.laidMetH_plain _ _ _ (by kernel_rfl)]; exact laidMet_laidAll _ (by kernel_rfl) (by kernel_rfl))) ?_
  intro W base args ds gs before hval0 hW _ _ _ _
  have hval : ∀ (j : Nat) t v, Tryz.f3.params[j]? = some t → args[j]? = some v → Value.okWide Tryz.prog W .any base t v := hval0
  have hW' := hW
  obtain ⟨p, q, hA0, hV, rfl, _, _⟩ := hW
  have hA : DataW.TrodAll enc Tryz.prog W 0 (fun _ => true) true Tryz.f3.params.toList args.toList ds p := hA0
  rw [Tryz.params3] at hA hval
  obtain ⟨v0, vs0, d0, ds0, p0, q0, hargs, rfl, rfl, h0, r0⟩ := trodAll_cons hA
  obtain ⟨v1, vs1, d1, ds1, p1, q1, rfl, rfl, rfl, h1, r1⟩ := trodAll_cons r0
  obtain ⟨v2, vs2, d2, ds2, p2, q2, rfl, rfl, rfl, h2, r2⟩ := trodAll_cons r1
  obtain ⟨rfl, rfl, rfl⟩ := trodAll_nil r2
  obtain rfl : args = #[v0, v1, v2] := by cases args; simp_all
  obtain ⟨a0, len0, cap0, rfl⟩ := okWide_slice Tryz.underlying22 (hval 0 22 v0 rfl rfl)
  obtain ⟨a1, len1, cap1, rfl⟩ := okWide_slice Tryz.underlying23 (hval 1 23 v1 rfl rfl)
  obtain ⟨a2, len2, cap2, rfl⟩ := okWide_slice Tryz.underlying23 (hval 2 23 v2 rfl rfl)
  have k0 := h0
  have k1 := h1
  have k2 := h2
  have lt0 : ∀ x ∈ p0, x.block < W.heap.size := by obtain ⟨m, hm⟩ := k0; exact DataW.trod_lt m _ _ _ hm
  have lt1 : ∀ x ∈ p1, x.block < W.heap.size := by obtain ⟨m, hm⟩ := k1; exact DataW.trod_lt m _ _ _ hm
  have lt2 : ∀ x ∈ p2, x.block < W.heap.size := by obtain ⟨m, hm⟩ := k2; exact DataW.trod_lt m _ _ _ hm
  obtain ⟨b, hb, hcl, hu, hRB⟩ := bytes_of h0
  obtain ⟨los, hlo, hll, hLo⟩ := lists_of h1
  obtain ⟨gls, hgl, hgll, hGl⟩ := lists_of h2
  clear hA0 hval0
  subst hb hlo hgl
  obtain ⟨g1, rfl⟩ : ∃ g, gs = [g] := by
    match gs, hV with
    | [g], _ => exact ⟨g, rfl⟩
    | [], h => exact h.elim
    | _ :: _ :: _, h =>
      obtain ⟨_, _, _, _, _, _, _, _, _, _, h2, _⟩ := h
      exact h2.elim
  have hmx : maxLen ≤ 9223372036854775807 := of_decide_eq_true (by kernel_rfl)
  refine (f3_any W a0 a1 a2 cap0 cap1 cap2 b los gls hRB hcl hu hLo hGl (Nat.le_trans hll hmx) (Nat.le_trans hgll hmx)).mono fun e W' hout => ?_
  obtain ⟨_, _, rfl, hH⟩ := hout
  have bel := below_of hH
  exact ⟨_, rfl, _, _, _, [], _, q, hW', trodAll_mk1 (shut_bool Tryz.underlying4 _), (trodAll_cons_mk (Below.trod Tryz.laidOut (by kernel_rfl) (of_decide_eq_true (by kernel_rfl)) k0 bel lt0)
    (trodAll_cons_mk (Below.trod Tryz.laidOut (by kernel_rfl) (of_decide_eq_true (by kernel_rfl)) k1 bel lt1) (trodAll_cons_mk (Below.trod Tryz.laidOut (by kernel_rfl) (of_decide_eq_true (by kernel_rfl)) k2 bel lt2) trodAll_mk0))), bel.trodVars Tryz.laidOut (by kernel_rfl) hV, bel.frame _, fun h => by cases h⟩
theorem fnCharstring_holds : Rows.FnCharstringSaid :=
  OpenClaim.holds_of_wide 3 Tryz.f3 rfl rfl rfl rfl rfl rfl rfl ⟨rfl, rfl, rfl, rfl, rfl⟩ rfl rfl rfl rfl rfl (by kernel_rfl) Tryz.func3 (by kernel_rfl)
    (of_decide_eq_true (by kernel_rfl)) (by unfold Func.isWrapper; first | (rw [if_pos (by decide +kernel)]; kernel_rfl) | (rw [if_neg (by decide +kernel)]; exact ⟨rfl, rfl⟩))
    (fun os started H enc _ => fnCharstring_lifted os started H enc)
#print axioms fnCharstring_holds
end Go.Proofs.YtbepljmeflndkaaGreatDoor
