/- Part 5 of the proof about FnCharstring. -/
import Derived.Test.YtbepljmeflndkaaGreatDoorQ04
import Derived.Test.YtbepljmeflndkaaGreatDoorQ03
namespace Go.Proofs.YtbepljmeflndkaaGreatDoor
open Go.Eng Go.Fl
set_option maxRecDepth 100000
attribute [local irreducible] IntKind.wrap Int.tdiv Int.tmod Int.emod maxLen F G
theorem cons4 {l : List Int} (h : 4 ≤ l.length) : ∃ a b c d r, l = a :: b :: c :: d :: r := by
  match l, h with
  | a :: b :: c :: d :: r, _ => exact ⟨a, b, c, d, r, rfl⟩
def lastQ : List Int → Int
  | [e] => e
  | _ => 0
theorem lastQ_ne {r : List Int} (h : r.length ≠ 1) : lastQ r = 0 := by
  match r, h with
  | [], _ => rfl
  | [e], h => exact absurd rfl h
  | e :: f :: r, _ => rfl
theorem turning_short {lv : Bool} {p : PSt} {l : List Int} (h : l.length < 4) : turningP lv p l = p := by
  match l, h with
  | [], _ => rfl
  | [_], _ => rfl
  | [_, _], _ => rfl
  | [_, _, _], _ => rfl
  | _ :: _ :: _ :: _ :: _, h => simp at h; omega
theorem turning_step {lv : Bool} {p : PSt} {a b c d : Int} {r : List Int} : turningP lv p (a :: b :: c :: d :: r) = turningP (!lv) (bif lv then curveP p a 0 b c (lastQ r) d else curveP p 0 a b c d (lastQ r)) r := by
  match r with
  | [] => rfl
  | [e] => rfl
  | e :: f :: r => rfl
set_option maxHeartbeats 4000000 in
theorem f32_any (w : World) (bC cl M : Nat) (lv : Bool) (p : PSt) (so : Sv) (rest : List Value) (A : Option Addr) (qs : List Int) (hcl : qs.length ≤ cl) (hn : qs.length ≤ 48) (hq : ∀ q ∈ qs, Opd q) (hB0 : p.Bd M) (hM : M + 60 * 2147483648 < 2 ^ 53) (hok : slOk so p.out.length 7 (encS p.out)) (hlen : p.out.length ≤ 80000) (hR : RdF w (((bC, slV so p.out.length :: .float .f64 (F p.x) :: .float .f64 (F p.y) :: .bool p.o :: .float .f64 (F p.fx) :: .float .f64 (F p.fy) :: rest, 46) :: slH so (encS p.out) 34).map (·.1)) A (qs.map F)) (hw : Hp w (((bC, slV so p.out.length :: .float .f64 (F p.x) :: .float .f64 (F p.y) :: .bool p.o :: .float .f64 (F p.fx) :: .float .f64 (F p.fy) :: rest, 46) :: slH so (encS p.out) 34).map (·.1)) ((bC, slV so p.out.length :: .float .f64 (F p.x) :: .float .f64 (F p.y) :: .bool p.o :: .float .f64 (F p.fx) :: .float .f64 (F p.fy) :: rest, 46) :: slH so (encS p.out) 34) w) : Calls Tryz.prog 32 [.pointer (some ⟨bC, 0, none⟩), .slice A qs.length cl, .bool lv].toArray w (Out w (((bC, slV so p.out.length :: .float .f64 (F p.x) :: .float .f64 (F p.y) :: .bool p.o :: .float .f64 (F p.fx) :: .float .f64 (F p.fy) :: rest, 46) :: slH so (encS p.out) 34).map (·.1)) (fun z : Sv => slOk z (turningP lv p qs).out.length 7 (encS (turningP lv p qs).out)) (fun z => .tuple #[]) (fun z => (bC, slV z (turningP lv p qs).out.length :: .float .f64 (F (turningP lv p qs).x) :: .float .f64 (F (turningP lv p qs).y) :: .bool (turningP lv p qs).o :: .float .f64 (F (turningP lv p qs).fx) :: .float .f64 (F (turningP lv p qs).fy) :: rest, 46) :: slH z (encS (turningP lv p qs).out) 34)) := by
 obtain ⟨pA, rfl, hpb, hpS, hpc⟩ := id hR
 refine enter (n := 57) Tryz.func32 rfl rfl rfl hw ?_
 refine c_block ?_
 refine c_loop (ι := Addr × Nat × Nat × List Int × Bool × PSt × Sv) (φ := fun z => RdF w (((bC, slV so p.out.length :: .float .f64 (F p.x) :: .float .f64 (F p.y) :: .bool p.o :: .float .f64 (F p.fx) :: .float .f64 (F p.fy) :: rest, 46) :: slH so (encS p.out) 34).map (·.1)) (some z.1) (z.2.2.2.1.map F) ∧ z.2.1 = z.2.2.2.1.length ∧ z.2.2.2.1.length ≤ z.2.2.1 ∧ z.2.2.2.1.length ≤ qs.length ∧ (∀ q ∈ z.2.2.2.1, Opd q) ∧ turningP z.2.2.2.2.1 z.2.2.2.2.2.1 z.2.2.2.1 = turningP lv p qs ∧ z.2.2.2.2.2.1.Bd (M + (qs.length - z.2.2.2.1.length) * 2147483648) ∧ slOk z.2.2.2.2.2.2 z.2.2.2.2.2.1.out.length 7 (encS z.2.2.2.2.2.1.out) ∧ z.2.2.2.2.2.1.out.length + z.2.2.2.1.length ≤ p.out.length + qs.length) (L' := fun z => [(0, .pointer (some ⟨bC, 0, none⟩)), (1, .slice (some z.1) z.2.1 z.2.2.1), (2, .bool z.2.2.2.2.1)]) (H' := fun z => (bC, slV z.2.2.2.2.2.2 z.2.2.2.2.2.1.out.length :: .float .f64 (F z.2.2.2.2.2.1.x) :: .float .f64 (F z.2.2.2.2.2.1.y) :: .bool z.2.2.2.2.2.1.o :: .float .f64 (F z.2.2.2.2.2.1.fx) :: .float .f64 (F z.2.2.2.2.2.1.fy) :: rest, 46) :: slH z.2.2.2.2.2.2 (encS z.2.2.2.2.2.1.out) 34) (fun z => z.2.1) (pA, qs.length, cl, qs, lv, p, so) ⟨hR, rfl, hcl, Nat.le_refl _, hq, rfl, hB0.mono (by simp), hok, Nat.le_refl _⟩ ⟨rfl, rfl, rfl, trivial⟩ (.cons .here .refl) ?_
 intro ⟨pB, m1, cB, qt, lv1, p1, so1⟩ ⟨hRB, hm, hcB, hqn, hqt, hE, hB, hok1, hol⟩
 simp only at hRB hm hcB hqn hqt hE hB hok1 hol ⊢
 obtain ⟨pB2, hpB2, hpb2, hpS2, hpc2⟩ := id hRB
 injection hpB2 with hpB2
 subst hpB2
 refine c_seq ?_
 refine cR ?_
 refine lM rfl ?_
 refine lV (y_len sl_44 rfl) ?_
 refine lB rfl rfl rfl rfl ?_
 refine nQ ?_
 refine c_cond rfl (fun hc9 => ?_) (fun hc9 => ?_)
 ·have hk2 : 4 ≤ m1 := by simp only [decide_eq_true_eq] at hc9; omega
  obtain ⟨a, b, c, d, r, rfl⟩ := cons4 (l := qt) (by omega)
  have qa := hqt a (by simp)
  have qb := hqt b (by simp)
  have qc := hqt c (by simp)
  have qd := hqt d (by simp)
  have hml : m1 = r.length + 4 := hm
  refine kQ ?_
  refine c_block ?_
  refine cR ?_
  refine lA rfl ?_
  refine nQ ?_
  refine c_seq ?_
  refine cR ?_
  refine lM rfl ?_
  refine lV (y_len sl_44 rfl) ?_
  refine lB rfl rfl rfl rfl ?_
  refine nQ ?_
  refine c_cut (ι := Nat × Int) (φ := fun z => RF z.1 z.2 ∧ Opd z.2 ∧ z.2 = lastQ r) (L' := fun z => [(0, .pointer (some ⟨bC, 0, none⟩)), (1, .slice (some pB) m1 cB), (2, .bool lv1), (6, .float .f64 z.1)]) (H' := fun _ => (bC, slV so1 p1.out.length :: .float .f64 (F p1.x) :: .float .f64 (F p1.y) :: .bool p1.o :: .float .f64 (F p1.fx) :: .float .f64 (F p1.fy) :: rest, 46) :: slH so1 (encS p1.out) 34) ?_ ?_
  ·refine c_cond rfl (fun hc12 => ?_) (fun hc12 => ?_)
   ·obtain ⟨e, rfl⟩ : ∃ e, r = [e] := List.length_eq_one_iff.1 (by simp only [beq_iff_eq] at hc12; omega)
    have qe := hqt e (by simp)
    refine c_region ?_
    refine lM rfl ?_
    refine lV (y_indexAddr (j := 4) es_44 rfl rfl (by simp at hm; omega)) ?_
    refine lV (y_oldLoad1 ld_41 rfl (by rw [block_add]; exact hpb2) (by rw [block_add]; exact hpS2) (hpc2 4 _ rfl)) ?_
    refine lA rfl ?_
    refine l_nil ?_
    exact q_cut (F e, e) ⟨RF_F qe.lt, qe, rfl⟩ ⟨rfl, rfl, rfl, rfl, trivial⟩ (.cons .here .refl)
   ·have hr1 : r.length ≠ 1 := by simp only [beq_eq_false_iff_ne] at hc12; omega
    refine c_skip ?_
    exact q_cut (0, 0) ⟨RF_zero, Opd_zero, (lastQ_ne hr1).symm⟩ ⟨rfl, rfl, rfl, rfl, trivial⟩ (.cons .here .refl)
  intro ⟨i0, q0⟩ ⟨hi0, hq0, hla⟩
  simp only at hi0 hq0 hla ⊢
  refine q_then ?_
  refine c_seq ?_
  refine cR ?_
  refine lM rfl ?_
  refine nQ ?_
  refine c_cond rfl (fun hc16 => ?_) (fun hc16 => ?_)
  ·subst hc16
   have hB2 := curveP_bd hB qa Opd_zero qb qc hq0 qd
   obtain ⟨hx0, hx1, hx2⟩ := abs4 hB.x qa qb hq0
   obtain ⟨hy0, hy1, hy2⟩ := abs4 hB.y Opd_zero qc qd
   have hB3 : (curveP p1 a 0 b c q0 d).Bd (M + (qs.length - r.length) * 2147483648) := hB2.mono (by omega)
   refine c_draw [] mixed rfl ?_
   refine dM 0 rfl rfl ?_
   refine dN 1 rfl rfl ?_
   refine dV 2 rfl (y_fieldAddr fo_46_0 rfl) ?_
   refine dM 3 rfl rfl ?_
   refine dV 4 rfl (y_indexAddr (j := 0) es_44 rfl rfl (by omega)) ?_
   refine dV 5 rfl (y_oldLoad1 ld_41 rfl (by rw [block_add]; exact hpb2) (by rw [block_add]; exact hpS2) (hpc2 0 _ rfl)) ?_
   refine dM 6 rfl rfl ?_
   refine dV 7 rfl (y_indexAddr (j := 1) es_44 rfl rfl (by omega)) ?_
   refine dV 8 rfl (y_oldLoad1 ld_41 rfl (by rw [block_add]; exact hpb2) (by rw [block_add]; exact hpS2) (hpc2 1 _ rfl)) ?_
   refine dM 9 rfl rfl ?_
   refine dV 10 rfl (y_indexAddr (j := 2) es_44 rfl rfl (by omega)) ?_
   refine dV 11 rfl (y_oldLoad1 ld_41 rfl (by rw [block_add]; exact hpb2) (by rw [block_add]; exact hpS2) (hpc2 2 _ rfl)) ?_
   refine dM 12 rfl rfl ?_
   refine dM 13 rfl rfl ?_
   refine dV 14 rfl (y_indexAddr (j := 3) es_44 rfl rfl (by omega)) ?_
   refine dV 15 rfl (y_oldLoad1 ld_41 rfl (by rw [block_add]; exact hpb2) (by rw [block_add]; exact hpS2) (hpc2 3 _ rfl)) ?_
   refine d_ready (i := 16) (rs := []) (by kernel_rfl) .nil (all_one ?_)
   refine o_gives rfl rfl rfl (g_buildSlice (cs := [_, _, _, _, _, _]) sl_44 sz_41 ze_41 rfl rfl rfl rfl (by simp [Value.cells]) rfl rfl) rfl ?_
   intro b33 hb33
   refine d_ready (i := 17) (rs := []) (by kernel_rfl) .nil (all_one ?_)
   refine o_call rfl (no_guard rfl) ok_22 rfl rfl (out_tail (A := [_]) (H1 := (bC, slV so1 p1.out.length :: .float .f64 (F p1.x) :: .float .f64 (F p1.y) :: .bool p1.o :: .float .f64 (F p1.fx) :: .float .f64 (F p1.fy) :: rest, 46) :: slH so1 (encS p1.out) 34) (fun w1 ha hb => f22_any w1 bC 6 6 p1.x p1.y p1.fx p1.fy a 0 b c q0 d (F a) 0 (F b) (F c) i0 (F d) [] p1.o p1.out so1 rest _ (by have := hB.x; omega) (by have := hB.y; omega) (RF_F qa.lt) RF_zero (RF_F qb.lt) (RF_F qc.lt) hi0 (RF_F qd.lt) (by omega) (by omega) (by omega) (by omega) (by omega) (by omega) (by omega) hok1 (by omega) (RdF_own6 ha) hb)) ?_
   intro so2 hok2
   refine d_end (by kernel_rfl) .nil ?_
   refine q_then ?_
   refine c_drawH mixed rfl ?_
   refine dM 0 rfl rfl ?_
   refine dV 1 rfl (y_not rfl) ?_
   refine dM 2 rfl rfl ?_
   refine dV 3 rfl (y_sliceLo es_44 rfl rfl (by omega) (by omega)) ?_
   refine dV 4 rfl (y_assign rfl) ?_
   refine dV 5 rfl (y_assign rfl) ?_
   refine d_end (by kernel_rfl) (.cons .here (.cons .here .refl)) ?_
   refine q_block ?_
   exact q_rnd (_, m1 - 4, cB - 4, r, false, curveP p1 a 0 b c q0 d, so2) ⟨RdF.dropN (k := 4) hRB (by simp) (by simp only [List.length_map]; exact hcB), by simp only; omega, by simp only [List.length_cons] at hcB ⊢; omega, by simp only [List.length_cons] at hqn ⊢; omega, fun q hq1 => hqt q (by simp [hq1]), by rw [← hE, turning_step, hla]; rfl, hB3, hok2, by simp only [List.length_cons] at hol; simp [curveP]; omega⟩ (by simp only; omega) ⟨rfl, rfl, rfl, trivial⟩ (.cons (.there .here) (.skip .refl))
  ·subst hc16
   have hB2 := curveP_bd hB Opd_zero qa qb qc qd hq0
   obtain ⟨hx0, hx1, hx2⟩ := abs4 hB.x Opd_zero qb qd
   obtain ⟨hy0, hy1, hy2⟩ := abs4 hB.y qa qc hq0
   have hB3 : (curveP p1 0 a b c d q0).Bd (M + (qs.length - r.length) * 2147483648) := hB2.mono (by omega)
   refine c_draw [] mixed rfl ?_
   refine dM 0 rfl rfl ?_
   refine dN 1 rfl rfl ?_
   refine dV 2 rfl (y_fieldAddr fo_46_0 rfl) ?_
   refine dM 3 rfl rfl ?_
   refine dV 4 rfl (y_indexAddr (j := 0) es_44 rfl rfl (by omega)) ?_
   refine dV 5 rfl (y_oldLoad1 ld_41 rfl (by rw [block_add]; exact hpb2) (by rw [block_add]; exact hpS2) (hpc2 0 _ rfl)) ?_
   refine dM 6 rfl rfl ?_
   refine dV 7 rfl (y_indexAddr (j := 1) es_44 rfl rfl (by omega)) ?_
   refine dV 8 rfl (y_oldLoad1 ld_41 rfl (by rw [block_add]; exact hpb2) (by rw [block_add]; exact hpS2) (hpc2 1 _ rfl)) ?_
   refine dM 9 rfl rfl ?_
   refine dV 10 rfl (y_indexAddr (j := 2) es_44 rfl rfl (by omega)) ?_
   refine dV 11 rfl (y_oldLoad1 ld_41 rfl (by rw [block_add]; exact hpb2) (by rw [block_add]; exact hpS2) (hpc2 2 _ rfl)) ?_
   refine dM 12 rfl rfl ?_
   refine dV 13 rfl (y_indexAddr (j := 3) es_44 rfl rfl (by omega)) ?_
   refine dV 14 rfl (y_oldLoad1 ld_41 rfl (by rw [block_add]; exact hpb2) (by rw [block_add]; exact hpS2) (hpc2 3 _ rfl)) ?_
   refine dM 15 rfl rfl ?_
   refine d_ready (i := 16) (rs := []) (by kernel_rfl) .nil (all_one ?_)
   refine o_gives rfl rfl rfl (g_buildSlice (cs := [_, _, _, _, _, _]) sl_44 sz_41 ze_41 rfl rfl rfl rfl (by simp [Value.cells]) rfl rfl) rfl ?_
   intro b51 hb51
   refine d_ready (i := 17) (rs := []) (by kernel_rfl) .nil (all_one ?_)
   refine o_call rfl (no_guard rfl) ok_22 rfl rfl (out_tail (A := [_]) (H1 := (bC, slV so1 p1.out.length :: .float .f64 (F p1.x) :: .float .f64 (F p1.y) :: .bool p1.o :: .float .f64 (F p1.fx) :: .float .f64 (F p1.fy) :: rest, 46) :: slH so1 (encS p1.out) 34) (fun w1 ha hb => f22_any w1 bC 6 6 p1.x p1.y p1.fx p1.fy 0 a b c d q0 0 (F a) (F b) (F c) (F d) i0 [] p1.o p1.out so1 rest _ (by have := hB.x; omega) (by have := hB.y; omega) RF_zero (RF_F qa.lt) (RF_F qb.lt) (RF_F qc.lt) (RF_F qd.lt) hi0 (by omega) (by omega) (by omega) (by omega) (by omega) (by omega) (by omega) hok1 (by omega) (RdF_own6 ha) hb)) ?_
   intro so2 hok2
   refine d_end (by kernel_rfl) .nil ?_
   refine q_then ?_
   refine c_drawH mixed rfl ?_
   refine dM 0 rfl rfl ?_
   refine dV 1 rfl (y_not rfl) ?_
   refine dM 2 rfl rfl ?_
   refine dV 3 rfl (y_sliceLo es_44 rfl rfl (by omega) (by omega)) ?_
   refine dV 4 rfl (y_assign rfl) ?_
   refine dV 5 rfl (y_assign rfl) ?_
   refine d_end (by kernel_rfl) (.cons .here (.cons .here .refl)) ?_
   refine q_block ?_
   exact q_rnd (_, m1 - 4, cB - 4, r, true, curveP p1 0 a b c d q0, so2) ⟨RdF.dropN (k := 4) hRB (by simp) (by simp only [List.length_map]; exact hcB), by simp only; omega, by simp only [List.length_cons] at hcB ⊢; omega, by simp only [List.length_cons] at hqn ⊢; omega, fun q hq1 => hqt q (by simp [hq1]), by rw [← hE, turning_step, hla]; rfl, hB3, hok2, by simp only [List.length_cons] at hol; simp [curveP]; omega⟩ (by simp only; omega) ⟨rfl, rfl, rfl, trivial⟩ (.cons (.there .here) (.skip .refl))
 ·have hE2 : p1 = turningP lv p qs := by rw [← hE, turning_short (by simp only [decide_eq_false_iff_not] at hc9; omega)]
  subst hE2
  refine c_exit ?_
  refine q_then_exit ?_
  refine q_rnd_exit ?_
  refine q_block_exit ?_
  exact body_ret (rs := []) rfl (vs := []) trivial (out_end so1 hok1 rfl (.cons .here .refl)) _ (.inl rfl)
end Go.Proofs.YtbepljmeflndkaaGreatDoor
namespace Go.Eng
open Go Go.Fl
section
variable {P : Program} {n : Nat} {D : List Deferred} {w0 : World} {S : List Nat} {L : Slots} {H : Heap}
variable {d : Option Tmp} {ty : TypeId} {pos : String} {af : Array Edge} {gd : Option (Nat × Bool)}
theorem out_keepP {PE : List PanicEntry → Prop} {f : Nat} {args : Array Value} {ι : Type} {φ : ι → Prop} {vv : ι → Value}
    (hc : ∀ w, Calls P f args w (OutP w [] φ vv (fun _ => []) PE)) : ∀ w, Hp w0 S H w → Calls P f args w (OutP w0 S φ vv (fun _ => H) PE) :=
  fun w hw => (out_frameP (H1 := []) (Hr := H) hw (.refl _) (hc w)).mono fun _ _ h => h
theorem out_keepPH {PE : List PanicEntry → Prop} {f : Nat} {args : Array Value} {ι : Type} {φ : ι → Prop} {vv : ι → Value}
    (hc : ∀ w, Hp w0 S H w → Calls P f args w (OutP w [] φ vv (fun _ => []) PE)) : ∀ w, Hp w0 S H w → Calls P f args w (OutP w0 S φ vv (fun _ => H) PE) :=
  fun w hw => (out_frameP (H1 := []) (Hr := H) hw (.refl _) (hc w hw)).mono fun _ _ h => h
theorem y_sliceLoM {t sz : Nat} {x lo : Operand} {p : Addr} {m cap i m' : Nat} (hs : elSize P t = some sz) (hx : ev L x = some (.slice (some p) m cap)) (hlo : ev L lo = some (.int .i64 (i : Int))) (h1 : i ≤ m) (h2 : m ≤ cap) (hm : m - i = m') :
    Yields P n D w0 S ⟨d, .slice t x (some lo) none none, ty, pos, af, gd⟩ L H (.slice (some (if cap = i then p else p.add (i * sz))) m' (cap - i)) := by
  subst hm
  exact y_sliceLo hs hx hlo h1 h2
theorem out_keep {f : Nat} {args : Array Value} {ι : Type} {φ : ι → Prop} {vv : ι → Value}
    (hc : ∀ w, Calls P f args w (Out w [] φ vv (fun _ => []))) : ∀ w, Hp w0 S H w → Calls P f args w (Out w0 S φ vv (fun _ => H)) :=
  fun w hw => (out_frame (H1 := []) (Hr := H) hw (.refl _) (hc w)).mono fun _ _ h => h
/-- A call in a drawn region, whose callee may panic. -/
theorem o_callP {PE : List PanicEntry → Prop} {Q : Exit → Act → World → Prop} {ops : Array Oper} {Hc : Heap} {fuel : Nat} {listed : Array Bool} {i f : Nat} {args : Array Operand} {tys : Array TypeId} {vals : List Value} {ι : Type} {φ : ι → Prop} {vv : ι → Value} {H' : ι → Heap} {dst : Nat} {ty : TypeId} {pos : String} {af : Array Edge} {gd : Option (Nat × Bool)}
    (hP : Pq PE Q n D w0 S) (hi : ops[i]? = some ⟨some dst, .call { callee := .value (.func f), args, argTypes := tys }, ty, pos, af, gd⟩) (hg : ∀ a, Env n D L a → Region.wanted ⟨some dst, .call { callee := .value (.func f), args, argTypes := tys }, ty, pos, af, gd⟩ (yielded ops a.tmps) = true)
    (hok : callOk P f = true) (hargs : evs L args.toList = some vals) (hn : Nat.blt dst n = true) (hc : ∀ w, Hp w0 S H w → Calls P f vals.toArray w (OutP w0 S φ vv H' PE))
    (h : ∀ y, φ y → Wd P Q n D w0 S ops Hc fuel (listed.setIfInBounds i true) ((dst, vv y) :: L) (H' y)) : Wo P Q n D w0 S ops Hc fuel listed i L H := by
  intro a w ha hw
  unfold wpOp
  simp only [hi]
  rw [if_pos (hg a ha)]
  left
  unfold Oper.wp
  rw [run_call hok rfl hargs ha w, Oper.upon_enter]
  refine (by simpa using hc w hw : Calls P f (#[] ++ vals.toArray ++ #[]) w (OutP w0 S φ vv H' PE)).mono fun e w' he => ?_
  rcases he with ⟨y, hy, rfl, hH⟩ | ⟨c, hc2, rfl, hH⟩
  · exact h y hy _ _ (ha.put hn _) hH
  · exact hP c hc2 a w' (ha.sub trivial) hH
/-- A call that changes a block in the midst and the tail. -/
theorem out_mid {f : Nat} {args : Array Value} {ι : Type} {φ : ι → Prop} {vv : ι → Value} {b : Blk} (A1 A2 : Heap) {T : Heap} {B : ι → Blk} {T' : ι → Heap}
    (hc : ∀ w, Hp w0 S (A1 ++ (b :: (A2 ++ T))) w → Hp w ((b :: T).map (·.1)) (b :: T) w → Calls P f args w (Out w ((b :: T).map (·.1)) φ vv (fun x => B x :: T' x))) : ∀ w, Hp w0 S (A1 ++ (b :: (A2 ++ T))) w → Calls P f args w (Out w0 S φ vv (fun x => A1 ++ (B x :: (A2 ++ T' x)))) := by
  intro w hw
  have hp : ∀ (c : Blk) (U : Heap), (A1 ++ (c :: (A2 ++ U))).Perm ((c :: U) ++ (A1 ++ A2)) := by
    intro c U
    refine List.perm_middle.trans (.cons _ ?_)
    rw [← List.append_assoc]
    exact List.perm_append_comm
  refine (out_frame hw (hp b T) (hc w hw (hw.perm (hp b T)).self)).mono ?_
  rintro e w' ⟨x, hx, he, hH⟩
  exact ⟨x, hx, he, hH.perm (hp (B x) (T' x)).symm⟩
theorem fvOk.nil {fv : Fv} {xs : List Value} (h : fvOk fv xs) : fv = none → xs.length = 0 := by intro he; subst he; have : xs = [] := h; subst this; rfl
theorem fvOk.some {fv : Fv} {xs : List Value} (h : fvOk fv xs) (hx : 0 < xs.length) : ∃ g pre sp cap, fv = some (g, pre, sp, cap) := by
  cases fv with
  | none => have : xs = [] := h; subst this; simp at hx
  | some q => exact ⟨q.1, q.2.1, q.2.2.1, q.2.2.2, rfl⟩
theorem y_lenFv {t e : TypeId} {x : Operand} {fv : Fv} {m : Nat} (ht : isSl P t = some e) (hx : ev L x = some (fvV fv m)) (hn : fv = none → m = 0) :
    Yields P n D w0 S ⟨d, .call { callee := .builtin .len, args := #[x], argTypes := #[t] }, ty, pos, af, gd⟩ L H (.int .i64 m) := by
  cases fv with
  | none => have h0 := hn rfl; subst h0; exact y_len ht hx
  | some q => exact y_len ht hx
theorem y_indexFv {t : TypeId} {x i : Operand} {g o len cap : Nat} {k : IntKind} {j : Nat} (h : elSize P t = some 1) (hx : ev L x = some (.slice (some ⟨g, o, none⟩) len cap)) (hi : ev L i = some (.int k (j : Int))) (hj : j < len) :
    Yields P n D w0 S ⟨d, .indexAddr t x i, ty, pos, af, gd⟩ L H (.pointer (some ⟨g, o + j, none⟩)) := by
  have := y_indexAddr (P := P) (n := n) (D := D) (w0 := w0) (S := S) (L := L) (H := H) (d := d) (ty := ty) (pos := pos) (af := af) (gd := gd) h hx hi hj
  rwa [Addr.add_lit, Nat.mul_one] at this
theorem fv_at {pre xs sp : List Value} {j : Nat} {v : Value} (h : xs[j]? = some v) : (pre ++ (xs ++ sp))[pre.length + j]? = some v := by
  have hj : j < xs.length := (List.getElem?_eq_some_iff.1 h).1
  rw [List.getElem?_append_right (by omega), Nat.add_sub_cancel_left, List.getElem?_append_left hj]
  exact h
/-- The own slice without its first value. -/
def fvTl (fv : Fv) (u : Value) : Fv := match fv with
  | none => none
  | some (g, pre, sp, cap) => if cap = 1 then some (g, pre, u :: sp, 0) else some (g, pre ++ [u], sp, cap - 1)
theorem fvTl_H {fv : Fv} {u : Value} {xs : List Value} (h : fvOk fv (u :: xs)) (e : TypeId) : fvH (fvTl fv u) xs e = fvH fv (u :: xs) e := by
  cases fv with
  | none => cases h
  | some q =>
    obtain ⟨g, pre, sp, cap⟩ := q
    obtain ⟨h1, h2, h3⟩ := h
    unfold fvTl
    simp only
    by_cases hc : cap = 1
    · rw [if_pos hc]
      have hxs : xs = [] := by cases xs with | nil => rfl | cons y ys => simp at h1; omega
      subst hxs
      rfl
    · rw [if_neg hc]
      show [(g, (pre ++ [u]) ++ (xs ++ sp), e)] = [(g, pre ++ (u :: xs ++ sp), e)]
      simp
theorem fvTl_ok {fv : Fv} {u : Value} {xs : List Value} (h : fvOk fv (u :: xs)) : fvOk (fvTl fv u) xs := by
  cases fv with
  | none => cases h
  | some q =>
    obtain ⟨g, pre, sp, cap⟩ := q
    obtain ⟨h1, h2, h3⟩ := h
    simp only [List.length_cons] at h1 h3
    unfold fvTl
    simp only
    by_cases hc : cap = 1
    · rw [if_pos hc]
      have hxs : xs = [] := by cases xs with | nil => rfl | cons y ys => simp at h1; omega
      subst hxs
      exact ⟨Nat.le_refl _, Nat.zero_le _, Nat.zero_le _⟩
    · rw [if_neg hc]
      exact ⟨by omega, by omega, by omega⟩
theorem y_fvTl {t : Nat} {x lo : Operand} {fv : Fv} {u : Value} {xs : List Value} {m : Nat} (hs : elSize P t = some 1) (hok : fvOk fv (u :: xs)) (hx : ev L x = some (fvV fv (xs.length + 1))) (hlo : ev L lo = some (.int .i64 1)) (hm : xs.length = m) :
    Yields P n D w0 S ⟨d, .slice t x (some lo) none none, ty, pos, af, gd⟩ L H (fvV (fvTl fv u) m) := by
  subst hm
  cases fv with
  | none => cases hok
  | some q =>
    obtain ⟨g, pre, sp, cap⟩ := q
    obtain ⟨h1, h2, h3⟩ := hok
    simp only [List.length_cons] at h1 h3
    have hy := y_sliceLo (P := P) (n := n) (D := D) (w0 := w0) (S := S) (L := L) (H := H) (d := d) (ty := ty) (pos := pos) (af := af) (gd := gd) (i := 1) hs hx hlo (by simp) h1
    by_cases hc : cap = 1
    · have hxs : xs = [] := by cases xs with | nil => rfl | cons y ys => simp at h1; omega
      subst hxs
      subst hc
      simpa [fvV, fvTl] using hy
    · rw [if_neg hc] at hy
      simpa [fvV, fvTl, hc, Addr.add_lit] using hy
theorem y_or {t u : TypeId} {x y : Operand} {k : IntKind} {i j : Int} {v' : Value} (hx : ev L x = some (.int k i)) (hy : ev L y = some (.int k j)) (hv' : Value.int k (k.wrap (BitVec.ofInt k.bits i ||| BitVec.ofInt k.bits j).toNat) = v') :
    Yields P n D w0 S ⟨d, .binOp .or t x y u, ty, pos, af, gd⟩ L H v' := by
  intro a w ha hw
  subst hv'
  simp [execOp, ha.ev_eq hx, ha.ev_eq hy, eqGuard_at_int, binOp, Op.intBits]
theorem y_shl {t u : TypeId} {x y : Operand} {k k2 : IntKind} {i : Int} {s : Nat} {v' : Value} (hx : ev L x = some (.int k i)) (hy : ev L y = some (.int k2 (s : Int))) (hs : s ≤ k.bits) (hv' : Value.int k (k.wrap (i * 2 ^ s)) = v') :
    Yields P n D w0 S ⟨d, .binOp .shl t x y u, ty, pos, af, gd⟩ L H v' := by
  intro a w ha hw
  subst hv'
  have h0 : ¬ ((s : Int) < 0) := by omega
  have h1 : min s k.bits = s := by omega
  simp [execOp, ha.ev_eq hx, ha.ev_eq hy, eqGuard_at_int, binOp, Op.shift, h0, h1]
theorem or_add {n a b s : Nat} (hb : b < 2 ^ s) (hn : a * 2 ^ s + b < 2 ^ n) : (BitVec.ofInt n ((a * 2 ^ s : Nat) : Int) ||| BitVec.ofInt n ((b : Nat) : Int)).toNat = a * 2 ^ s + b := by
  rw [BitVec.toNat_or, BitVec.ofInt_natCast, BitVec.ofInt_natCast, BitVec.toNat_ofNat, BitVec.toNat_ofNat, Nat.mod_eq_of_lt (by omega), Nat.mod_eq_of_lt (by omega), Nat.mul_comm a, ← Nat.two_pow_add_eq_or_of_lt hb]
theorem orI {x y m a s : Nat} (hx : x = a * 2 ^ s) (hy : y < 2 ^ s) (hm : x + y = m) (hn : m < 2 ^ 63) : Value.int .i64 (IntKind.i64.wrap ((BitVec.ofInt IntKind.i64.bits (x : Int) ||| BitVec.ofInt IntKind.i64.bits (y : Int)).toNat : Nat)) = .int .i64 (m : Int) := by
  subst hx hm
  have h := or_add (n := 64) (a := a) hy (by omega)
  rw [show IntKind.i64.bits = 64 from rfl, h]
  exact fitN rfl (by omega)
theorem fitU {z : Int} {m : Nat} (h : z = m) (h2 : m < 4294967296) : Value.int .u32 (IntKind.u32.wrap z) = .int .u32 (m : Int) := by
  subst h
  have : IntKind.u32.wrap (m : Int) = m := by simp only [IntKind.wrap, IntKind.bits, IntKind.signed]; simp; omega
  rw [this]
theorem orU {x y m a s : Nat} (hx : x = a * 2 ^ s) (hy : y < 2 ^ s) (hm : x + y = m) (hn : m < 4294967296) : Value.int .u32 (IntKind.u32.wrap ((BitVec.ofInt IntKind.u32.bits (x : Int) ||| BitVec.ofInt IntKind.u32.bits (y : Int)).toNat : Nat)) = .int .u32 (m : Int) := by
  subst hx hm
  have h := or_add (n := 32) (a := a) hy (by omega)
  rw [show IntKind.u32.bits = 32 from rfl, h]
  exact fitU rfl (by omega)
theorem y_neg {t : TypeId} {x : Operand} {k : IntKind} {i : Int} {v' : Value} (hx : ev L x = some (.int k i)) (hv' : Value.int k (k.wrap (-i)) = v') : Yields P n D w0 S ⟨d, .unOp .neg t x, ty, pos, af, gd⟩ L H v' := by
  intro a w ha hw
  subst hv'
  simp [execOp, ha.ev_eq hx, Op.unary, Op.intArith]
/-- The greater of two words. -/
def maxW (i j : Nat) : Nat := match FloatKind.f64.format.order i j with | some .lt => j | some .gt => i | _ => bif (FloatKind.f64.decode i).neg then j else i
theorem y_fmax {t u : TypeId} {x y : Operand} {i j : Nat} {c : Ordering} (hx : ev L x = some (.float .f64 i)) (hy : ev L y = some (.float .f64 j)) (hc : FloatKind.f64.format.order i j = some c) :
    Yields P n D w0 S ⟨d, .call { callee := .builtin .max, args := #[x, y], argTypes := #[t, u] }, ty, pos, af, gd⟩ L H (.float .f64 (maxW i j)) := by
  intro a w ha hw
  have h1 := hc
  cases c <;> simp [execOp, resolve, invoke, builtin, ha.ev_eq hx, ha.ev_eq hy, Builtin.max_, Builtin.max2, h1, maxW, hc]
theorem RF_max {i j : Nat} {a b : Int} (ha : RF i a) (hb : RF j b) : RF (maxW i j) (max a b) := by
  unfold maxW
  rw [show FloatKind.f64.format.order i j = some (compare a b) from order_RF ha hb]
  rcases Int.lt_trichotomy a b with h | h | h
  · rw [Int.compare_eq_lt.2 h]
    have : max a b = b := by omega
    rw [this]; exact hb
  · rw [Int.compare_eq_eq.2 h]
    subst h
    have : max a a = a := by omega
    rw [this]
    show RF (bif _ then j else i) a
    cases (FloatKind.f64.decode i).neg
    · exact ha
    · exact hb
  · rw [Int.compare_eq_gt.2 h]
    have : max a b = a := by omega
    rw [this]; exact ha
end
end Go.Eng
namespace Go.Proofs.YtbepljmeflndkaaGreatDoor
open Go.Eng Go.Fl
/-- Lines that are level and upright by turns. -/
def hvP : Bool → PSt → List Int → PSt
  | _, p, [] => p
  | lv, p, a :: r => hvP (!lv) (bif lv then lineP p a 0 else lineP p 0 a) r
/-- Lines and curves. -/
def pathP (v : Nat) (p : PSt) (l : List Int) : Option PSt :=
  if v = 5 then (if 2 ≤ l.length ∧ l.length % 2 = 0 then some (linesP p l) else none)
  else if v = 6 ∨ v = 7 then (if 1 ≤ l.length then some (hvP (v == 6) p l) else none)
  else if v = 8 then (if 6 ≤ l.length ∧ l.length % 6 = 0 then some (curvesP p l) else none)
  else if v = 24 then (if 8 ≤ l.length ∧ l.length % 6 = 2 then some (linesP (curvesP p (l.take (l.length - 2))) (l.drop (l.length - 2))) else none)
  else if v = 25 then (if 8 ≤ l.length ∧ l.length % 2 = 0 then some (curvesP (linesP p (l.take (l.length - 6))) (l.drop (l.length - 6))) else none)
  else if v = 26 ∨ v = 27 then (if 4 ≤ l.length ∧ l.length % 4 < 2 then some (straightS (v == 27) p l) else none)
  else if v = 30 ∨ v = 31 then (if 4 ≤ l.length ∧ l.length % 4 < 2 then some (turningP (v == 31) p l) else none)
  else none
/-- Two curves told as one. -/
def flexP (v : Nat) (p : PSt) (l : List Int) : Option PSt :=
  match l with
  | [a, b, c, d, e, f, g] => if v = 34 then some (curveP (curveP p a 0 b c d 0) e 0 f (-c) g 0) else none
  | [a, b, c, d, e, f, g, h, i] => if v = 36 then some (curveP (curveP p a b c d e 0) f 0 g h i (-(b + d + h))) else none
  | [a, b, c, d, e, f, g, h, i, j, k] => if v = 37 then some (bif decide (max (b + d + f + h + j) (-(b + d + f + h + j)) < max (a + c + e + g + i) (-(a + c + e + g + i))) then curveP (curveP p a b c d e f) g h i j k (-(b + d + f + h + j)) else curveP (curveP p a b c d e f) g h i j (-(a + c + e + g + i)) k) else none
  | [_, _, _, _, _, _, _, _, _, _, _, _, _] => if v = 35 then some (curvesP p (l.take 12)) else none
  | _ => none
structure CSt where
  p : PSt
  st : List Int
  stems : Nat
  masked : Bool
  begun : Bool
  ended : Bool
  deep : Nat
  ops : Nat
/-- The width taken off. -/
def bareL (n : Int) (begun : Bool) (st : List Int) : List Int := bif begun then st else if (0 ≤ n ∧ (st.length : Int) = n + 1) ∨ (n < 0 ∧ st.length % 2 = 1) then st.tail else st
def stemC (c : CSt) : CSt := { c with begun := true, stems := c.stems + (bareL (-1) c.begun c.st).length / 2, st := [] }
/-- An operator: what it makes of the state. -/
inductive OpR : Nat → CSt → CSt → Prop
  | stem {v c} : v = 1 ∨ v = 3 ∨ v = 18 ∨ v = 23 → 2 ≤ c.st.length → c.masked = false → (bareL (-1) c.begun c.st).length % 2 = 0 → OpR v c (stemC c)
  | rmove {c a b} : bareL 2 c.begun c.st = [a, b] → OpR 21 c { c with begun := true, p := moveP c.p a b, st := [] }
  | hmove {c a} : bareL 1 c.begun c.st = [a] → OpR 22 c { c with begun := true, p := moveP c.p a 0, st := [] }
  | vmove {c a} : bareL 1 c.begun c.st = [a] → OpR 4 c { c with begun := true, p := moveP c.p 0 a, st := [] }
  | fin {c} : bareL 0 c.begun c.st = [] → OpR 14 c { c with begun := true, p := closeP c.p, st := [], ended := true }
  | path {v c p'} : c.p.o = true → pathP v c.p c.st = some p' → OpR v c { c with p := p', st := [] }
/-- A number: its value in 1/65536, and its bytes. -/
def numB : List Nat → Option (Int × Nat)
  | [] => none
  | v :: r =>
    if v = 28 then (match r with | a :: b :: _ => some (IntKind.i16.wrap ((a * 256 + b : Nat) : Int) * 65536, 3) | _ => none)
    else if v = 255 then (match r with | a :: b :: c :: d :: _ => some (IntKind.i32.wrap ((((a * 256 + b) * 256 + c) * 256 + d : Nat) : Int), 5) | _ => none)
    else if 251 ≤ v then (match r with | a :: _ => some ((-((v : Int) - 251) * 256 - a - 108) * 65536, 2) | _ => none)
    else if 247 ≤ v then (match r with | a :: _ => some ((((v : Int) - 247) * 256 + a + 108) * 65536, 2) | _ => none)
    else some (((v : Int) - 139) * 65536, 1)
def isNum (v : Nat) : Bool := decide (32 ≤ v) || v == 28
/-- An operator is begun: one more. -/
def CSt.tick (c : CSt) : CSt := { c with ops := c.ops + 1 }
/-- One subroutine's run, from a state and bytes to a state. -/
inductive RunR (lo gl : List (List Nat)) : CSt → List Nat → CSt → Prop
  | ended {c b} : c.ended = true → RunR lo gl c b c
  | num {c v r z c'} : c.ended = false → c.ops + 1 < 2000 → isNum v = true → numB (v :: r) = some z → c.st.length + 1 ≤ 48 → RunR lo gl { c.tick with st := c.st ++ [z.1] } ((v :: r).drop z.2) c' → RunR lo gl c (v :: r) c'
  | ret {c r} : c.ended = false → c.ops + 1 < 2000 → 0 < c.deep → RunR lo gl c (11 :: r) c.tick
  | call {c v r s k sub c1 c'} : c.ended = false → c.ops + 1 < 2000 → v = 10 ∨ v = 29 → c.st = s ++ [k * 65536] → 0 ≤ k + 107 → (bif v == 10 then lo else gl)[(k + 107).toNat]? = some sub → c.deep + 1 < 9 →
      RunR lo gl { c.tick with st := s, deep := c.deep + 1 } sub c1 → RunR lo gl { c1 with deep := c.deep } r c' → RunR lo gl c (v :: r) c'
  | flex {c w r p' c'} : c.ended = false → c.ops + 1 < 2000 → c.p.o = true → flexP w c.p c.st = some p' → RunR lo gl { c.tick with p := p', st := [] } r c' → RunR lo gl c (12 :: w :: r) c'
  | mask {c v r c'} : c.ended = false → c.ops + 1 < 2000 → v = 19 ∨ v = 20 → (c.masked = false ∨ c.st = []) → (bareL (-1) c.begun c.st).length % 2 = 0 → ((stemC c).stems + 7) / 8 < r.length →
      RunR lo gl { stemC c.tick with masked := true } (r.drop (((stemC c).stems + 7) / 8)) c' → RunR lo gl c (v :: r) c'
  | op {c v r c1 c'} : c.ended = false → c.ops + 1 < 2000 → isNum v = false → v ≠ 10 → v ≠ 29 → v ≠ 11 → v ≠ 12 → v ≠ 19 → v ≠ 20 → OpR v c.tick c1 → RunR lo gl c1 r c' → RunR lo gl c (v :: r) c'
/-- What holds of the interpreter's state all along. -/
structure Inv (c : CSt) : Prop where
  ops : c.ops < 2000
  len : c.st.length ≤ 48
  opd : ∀ q ∈ c.st, Opd q
  bd : c.p.Bd (c.ops * 128849018880)
  out : c.p.out.length + c.st.length ≤ 2 * c.ops
  stems : c.stems ≤ 48 * c.ops
def flv (q : Int) : Value := .float .f64 (F q)
theorem linesP_bd : ∀ {l : List Int} {p : PSt} {M : Nat}, p.Bd M → (∀ q ∈ l, Opd q) → (linesP p l).Bd (M + l.length * 2147483648)
  | [], p, M, h, _ => by simpa [linesP] using h
  | [_], p, M, h, _ => h.mono (by omega)
  | a :: b :: r, p, M, h, hq => by
    have h1 := linesP_bd (l := r) (lineP_bd h (hq a (by simp)) (hq b (by simp))) (fun q hm => hq q (by simp [hm]))
    exact h1.mono (by simp only [List.length_cons]; omega)
theorem curvesP_bd : ∀ {l : List Int} {p : PSt} {M : Nat}, p.Bd M → (∀ q ∈ l, Opd q) → (curvesP p l).Bd (M + l.length * 2147483648)
  | a :: b :: c :: d :: e :: f :: r, p, M, h, hq => by
    have h1 := curvesP_bd (l := r) (curveP_bd h (hq a (by simp)) (hq b (by simp)) (hq c (by simp)) (hq d (by simp)) (hq e (by simp)) (hq f (by simp))) (fun q hm => hq q (by simp [hm]))
    exact h1.mono (by simp only [List.length_cons]; omega)
  | [], p, M, h, _ => h.mono (by omega)
  | [_], p, M, h, _ => h.mono (by omega)
  | [_, _], p, M, h, _ => h.mono (by omega)
  | [_, _, _], p, M, h, _ => h.mono (by omega)
  | [_, _, _, _], p, M, h, _ => h.mono (by omega)
  | [_, _, _, _, _], p, M, h, _ => h.mono (by omega)
theorem linesP_len : ∀ {l : List Int} {p : PSt}, (linesP p l).out.length ≤ p.out.length + l.length
  | [], p => by simp [linesP]
  | [_], p => Nat.le_add_right _ _
  | a :: b :: r, p => by
    have h1 := linesP_len (l := r) (p := lineP p a b)
    have h2 : (lineP p a b).out.length = p.out.length + 1 := by simp [lineP]
    show (linesP (lineP p a b) r).out.length ≤ _
    simp only [List.length_cons]; omega
theorem curvesP_len : ∀ {l : List Int} {p : PSt}, (curvesP p l).out.length ≤ p.out.length + l.length
  | a :: b :: c :: d :: e :: f :: r, p => by
    have h1 := curvesP_len (l := r) (p := curveP p a b c d e f)
    have h2 : (curveP p a b c d e f).out.length = p.out.length + 1 := by simp [curveP]
    show (curvesP (curveP p a b c d e f) r).out.length ≤ _
    simp only [List.length_cons]; omega
  | [], p => Nat.le_add_right _ _
  | [_], p => Nat.le_add_right _ _
  | [_, _], p => Nat.le_add_right _ _
  | [_, _, _], p => Nat.le_add_right _ _
  | [_, _, _, _], p => Nat.le_add_right _ _
  | [_, _, _, _, _], p => Nat.le_add_right _ _
theorem hvP_bd : ∀ {l : List Int} {lv : Bool} {p : PSt} {M : Nat}, p.Bd M → (∀ q ∈ l, Opd q) → (hvP lv p l).Bd (M + l.length * 2147483648)
  | [], lv, p, M, h, _ => h.mono (by omega)
  | a :: r, lv, p, M, h, hq => by
    have h0 : (bif lv then lineP p a 0 else lineP p 0 a).Bd (M + 2147483648) := by
      cases lv
      · exact lineP_bd h Opd_zero (hq a (by simp))
      · exact lineP_bd h (hq a (by simp)) Opd_zero
    have h1 := hvP_bd (l := r) (lv := !lv) h0 (fun q hm => hq q (by simp [hm]))
    exact h1.mono (by simp only [List.length_cons]; omega)
theorem hvP_len : ∀ {l : List Int} {lv : Bool} {p : PSt}, (hvP lv p l).out.length ≤ p.out.length + l.length
  | [], lv, p => Nat.le_add_right _ _
  | a :: r, lv, p => by
    have h1 := hvP_len (l := r) (lv := !lv) (p := bif lv then lineP p a 0 else lineP p 0 a)
    have h2 : (bif lv then lineP p a 0 else lineP p 0 a).out.length = p.out.length + 1 := by cases lv <;> simp [lineP]
    show (hvP (!lv) (bif lv then lineP p a 0 else lineP p 0 a) r).out.length ≤ _
    simp only [List.length_cons]; omega
theorem straightP_bd : ∀ {l : List Int} {lv : Bool} {q0 : Int} {p : PSt} {M : Nat}, p.Bd M → Opd q0 → (∀ q ∈ l, Opd q) → (straightP lv p q0 l).Bd (M + l.length * 2147483648)
  | a :: b :: c :: d :: r, lv, q0, p, M, h, h0, hq => by
    have h1 : (bif lv then curveP p a q0 b c d 0 else curveP p q0 a b c 0 d).Bd (M + 3 * 2147483648) := by
      cases lv
      · exact curveP_bd h h0 (hq a (by simp)) (hq b (by simp)) (hq c (by simp)) Opd_zero (hq d (by simp))
      · exact curveP_bd h (hq a (by simp)) h0 (hq b (by simp)) (hq c (by simp)) (hq d (by simp)) Opd_zero
    have h2 := straightP_bd (l := r) (lv := lv) h1 Opd_zero (fun q hm => hq q (by simp [hm]))
    exact h2.mono (by simp only [List.length_cons]; omega)
  | [], lv, q0, p, M, h, _, _ => h.mono (by omega)
  | [_], lv, q0, p, M, h, _, _ => h.mono (by omega)
  | [_, _], lv, q0, p, M, h, _, _ => h.mono (by omega)
  | [_, _, _], lv, q0, p, M, h, _, _ => h.mono (by omega)
theorem straightP_len : ∀ {l : List Int} {lv : Bool} {q0 : Int} {p : PSt}, (straightP lv p q0 l).out.length ≤ p.out.length + l.length
  | a :: b :: c :: d :: r, lv, q0, p => by
    have h2 := straightP_len (l := r) (lv := lv) (q0 := 0) (p := bif lv then curveP p a q0 b c d 0 else curveP p q0 a b c 0 d)
    have h3 : (bif lv then curveP p a q0 b c d 0 else curveP p q0 a b c 0 d).out.length = p.out.length + 1 := by cases lv <;> simp [curveP]
    show (straightP lv (bif lv then curveP p a q0 b c d 0 else curveP p q0 a b c 0 d) 0 r).out.length ≤ _
    simp only [List.length_cons]; omega
  | [], lv, q0, p => Nat.le_add_right _ _
  | [_], lv, q0, p => Nat.le_add_right _ _
  | [_, _], lv, q0, p => Nat.le_add_right _ _
  | [_, _, _], lv, q0, p => Nat.le_add_right _ _
theorem straightS_bd {l : List Int} {lv : Bool} {p : PSt} {M : Nat} (h : p.Bd M) (hq : ∀ q ∈ l, Opd q) : (straightS lv p l).Bd (M + l.length * 2147483648) := by
  unfold straightS
  cases l with
  | nil => exact h.mono (by omega)
  | cons a r =>
    cases (a :: r).length % 4 == 1
    · exact straightP_bd h Opd_zero hq
    · exact (straightP_bd (l := r) h (hq a (by simp)) (fun q hm => hq q (by simp [hm]))).mono (by simp only [List.length_cons]; omega)
theorem straightS_len {l : List Int} {lv : Bool} {p : PSt} : (straightS lv p l).out.length ≤ p.out.length + l.length := by
  unfold straightS
  cases l with
  | nil => exact Nat.le_add_right _ _
  | cons a r =>
    cases (a :: r).length % 4 == 1
    · exact straightP_len
    · exact Nat.le_trans (straightP_len (l := r)) (by simp only [List.length_cons]; omega)
theorem lastQ_opd {r : List Int} (h : ∀ q ∈ r, Opd q) : Opd (lastQ r) := by
  match r, h with
  | [], _ => exact Opd_zero
  | [e], h => exact h e (by simp)
  | _ :: _ :: _, _ => exact Opd_zero
theorem turningP_all : ∀ (n : Nat) {l : List Int} {lv : Bool} {p : PSt} {M : Nat}, l.length ≤ n → p.Bd M → (∀ q ∈ l, Opd q) → (turningP lv p l).Bd (M + l.length * 2147483648) ∧ (turningP lv p l).out.length ≤ p.out.length + l.length := by
  intro n
  induction n with
  | zero => intro l lv p M hl h hq; rw [turning_short (by omega)]; exact ⟨h.mono (by omega), by omega⟩
  | succ n ih =>
    intro l lv p M hl h hq
    by_cases h4 : l.length < 4
    · rw [turning_short h4]; exact ⟨h.mono (by omega), by omega⟩
    · obtain ⟨a, b, c, d, r, rfl⟩ := cons4 (l := l) (by omega)
      rw [turning_step]
      have ho := lastQ_opd (r := r) (fun q hm => hq q (by simp [hm]))
      have h1 : (bif lv then curveP p a 0 b c (lastQ r) d else curveP p 0 a b c d (lastQ r)).Bd (M + 3 * 2147483648) := by
        cases lv
        · exact curveP_bd h Opd_zero (hq a (by simp)) (hq b (by simp)) (hq c (by simp)) (hq d (by simp)) ho
        · exact curveP_bd h (hq a (by simp)) Opd_zero (hq b (by simp)) (hq c (by simp)) ho (hq d (by simp))
      have h3 : (bif lv then curveP p a 0 b c (lastQ r) d else curveP p 0 a b c d (lastQ r)).out.length = p.out.length + 1 := by cases lv <;> simp [curveP]
      simp only [List.length_cons] at hl ⊢
      obtain ⟨i1, i2⟩ := ih (l := r) (lv := !lv) (by omega) h1 (fun q hm => hq q (by simp [hm]))
      exact ⟨i1.mono (by omega), by omega⟩
theorem opd_take {l : List Int} (h : ∀ q ∈ l, Opd q) (k : Nat) : ∀ q ∈ l.take k, Opd q := fun q hm => h q (List.mem_of_mem_take hm)
theorem opd_drop {l : List Int} (h : ∀ q ∈ l, Opd q) (k : Nat) : ∀ q ∈ l.drop k, Opd q := fun q hm => h q (List.mem_of_mem_drop hm)
theorem pathP_all {v : Nat} {l : List Int} {p p' : PSt} {M : Nat} (hp : pathP v p l = some p') (h : p.Bd M) (hq : ∀ q ∈ l, Opd q) : p'.Bd (M + l.length * 2147483648) ∧ p'.out.length ≤ p.out.length + l.length := by
  unfold pathP at hp
  split at hp
  · split at hp
    · injection hp with hp; subst hp; exact ⟨linesP_bd h hq, linesP_len⟩
    · cases hp
  split at hp
  · split at hp
    · injection hp with hp; subst hp; exact ⟨hvP_bd h hq, hvP_len⟩
    · cases hp
  split at hp
  · split at hp
    · injection hp with hp; subst hp; exact ⟨curvesP_bd h hq, curvesP_len⟩
    · cases hp
  split at hp
  · split at hp
    · injection hp with hp; subst hp
      have h1 := linesP_bd (curvesP_bd h (opd_take hq (l.length - 2))) (opd_drop hq (l.length - 2))
      have h2 := linesP_len (l := l.drop (l.length - 2)) (p := curvesP p (l.take (l.length - 2)))
      have h3 := curvesP_len (l := l.take (l.length - 2)) (p := p)
      rw [List.length_take, List.length_drop] at h1
      rw [List.length_drop] at h2
      rw [List.length_take] at h3
      exact ⟨h1.mono (by omega), by omega⟩
    · cases hp
  split at hp
  · split at hp
    · injection hp with hp; subst hp
      have h1 := curvesP_bd (linesP_bd h (opd_take hq (l.length - 6))) (opd_drop hq (l.length - 6))
      have h2 := curvesP_len (l := l.drop (l.length - 6)) (p := linesP p (l.take (l.length - 6)))
      have h3 := linesP_len (l := l.take (l.length - 6)) (p := p)
      rw [List.length_take, List.length_drop] at h1
      rw [List.length_drop] at h2
      rw [List.length_take] at h3
      exact ⟨h1.mono (by omega), by omega⟩
    · cases hp
  split at hp
  · split at hp
    · injection hp with hp; subst hp; exact ⟨straightS_bd h hq, straightS_len⟩
    · cases hp
  split at hp
  · split at hp
    · injection hp with hp; subst hp; exact turningP_all _ (Nat.le_refl _) h hq
    · cases hp
  · cases hp
theorem RdF_fv {w0 w : World} {S : List Nat} {H1 : Heap} {g cap : Nat} {pre sp : List Value} {qs : List Int} (h : Hp w0 S (H1 ++ fvH (some (g, pre, sp, cap)) (qs.map flv) 41) w) : RdF w (H1.map (·.1)) (some ⟨g, pre.length, none⟩) (qs.map F) := by
  have hm : (g, pre ++ (qs.map flv ++ sp), 41) ∈ H1 ++ fvH (some (g, pre, sp, cap)) (qs.map flv) 41 := List.mem_append_right _ (.head _)
  refine ⟨_, rfl, h.lt hm, ?_, fun i u hu => ?_⟩
  · intro hc
    obtain ⟨x, hx, hxe⟩ := List.mem_map.1 hc
    have := (List.pairwise_append.1 h.nd).2.2 x hx _ (.head _)
    exact this hxe
  · rw [Nat.mul_one, Addr.add_lit, h.cell hm]
    show (pre ++ (qs.map flv ++ sp))[pre.length + i]? = _
    refine fv_at ?_
    rw [List.getElem?_map] at hu ⊢
    cases hq : qs[i]? with
    | none => rw [hq] at hu; cases hu
    | some q => rw [hq] at hu; injection hu with hu; subst hu; rfl
theorem RdF.take {w : World} {S : List Nat} {A : Option Addr} {qs : List Int} (h : RdF w S A (qs.map F)) (k : Nat) : RdF w S A ((qs.take k).map F) := by
  obtain ⟨p, hp, hb, hS, hc⟩ := h
  refine ⟨p, hp, hb, hS, fun i u hu => hc i u ?_⟩
  rw [List.map_take, List.getElem?_take] at hu
  split at hu
  · exact hu
  · cases hu
theorem RdF.drop {w : World} {S : List Nat} {p : Addr} {qs : List Int} {k cl : Nat} (h : RdF w S (some p) (qs.map F)) (h1 : k ≤ qs.length) (h2 : qs.length ≤ cl) : RdF w S (some (if cl = k then p else p.add (k * 1))) ((qs.drop k).map F) := by
  rw [List.map_drop]
  exact h.dropN (by simpa using h1) (by simpa using h2)
/-- The side of a line, by its number. -/
def sideB (v : Int) (k : Nat) : Bool := (((k % 2 : Nat) : Int) == 0) == (v == 6)
theorem sideB_next (v : Int) (k : Nat) : sideB v (k + 1) = !sideB v k := by
  unfold sideB
  rcases Nat.mod_two_eq_zero_or_one k with h | h
  · have h2 : (k + 1) % 2 = 1 := by omega
    rw [h, h2]; cases v == 6 <;> rfl
  · have h2 : (k + 1) % 2 = 0 := by omega
    rw [h, h2]; cases v == 6 <;> rfl
theorem hvP_step {lv : Bool} {p : PSt} {a : Int} {r : List Int} : hvP lv p (a :: r) = hvP (!lv) (bif lv then lineP p a 0 else lineP p 0 a) r := rfl
theorem drop1 {l : List Int} {k : Nat} (h : k < l.length) : ∃ a, l[k]? = some a ∧ l.drop k = a :: l.drop (k + 1) :=
  ⟨l[k], List.getElem?_eq_getElem h, List.drop_eq_getElem_cons h⟩
end Go.Proofs.YtbepljmeflndkaaGreatDoor
namespace Go.Proofs.YtbepljmeflndkaaGreatDoor
open Go.Eng Go.Fl
set_option maxRecDepth 100000
attribute [local irreducible] IntKind.wrap Int.tdiv Int.tmod Int.emod maxLen F G
theorem f29_m (w : World) (bC cl M m : Nat) (p : PSt) (so : Sv) (rest : List Value) (A : Option Addr) (qs : List Int) (hm : qs.length = m) (he : qs.length % 2 = 0) (hn : qs.length ≤ 48) (hq : ∀ q ∈ qs, Opd q) (hB0 : p.Bd M) (hM : M + 50 * 2147483648 < 2 ^ 53) (hok : slOk so p.out.length 7 (encS p.out)) (hlen : p.out.length ≤ 80000) (hR : RdF w (((bC, slV so p.out.length :: .float .f64 (F p.x) :: .float .f64 (F p.y) :: .bool p.o :: .float .f64 (F p.fx) :: .float .f64 (F p.fy) :: rest, 46) :: slH so (encS p.out) 34).map (·.1)) A (qs.map F)) (hw : Hp w (((bC, slV so p.out.length :: .float .f64 (F p.x) :: .float .f64 (F p.y) :: .bool p.o :: .float .f64 (F p.fx) :: .float .f64 (F p.fy) :: rest, 46) :: slH so (encS p.out) 34).map (·.1)) ((bC, slV so p.out.length :: .float .f64 (F p.x) :: .float .f64 (F p.y) :: .bool p.o :: .float .f64 (F p.fx) :: .float .f64 (F p.fy) :: rest, 46) :: slH so (encS p.out) 34) w) : Calls Tryz.prog 29 [.pointer (some ⟨bC, 0, none⟩), .slice A m cl].toArray w (Out w (((bC, slV so p.out.length :: .float .f64 (F p.x) :: .float .f64 (F p.y) :: .bool p.o :: .float .f64 (F p.fx) :: .float .f64 (F p.fy) :: rest, 46) :: slH so (encS p.out) 34).map (·.1)) (fun z : Sv => slOk z (linesP p qs).out.length 7 (encS (linesP p qs).out)) (fun z => .tuple #[]) (fun z => (bC, slV z (linesP p qs).out.length :: .float .f64 (F (linesP p qs).x) :: .float .f64 (F (linesP p qs).y) :: .bool (linesP p qs).o :: .float .f64 (F (linesP p qs).fx) :: .float .f64 (F (linesP p qs).fy) :: rest, 46) :: slH z (encS (linesP p qs).out) 34)) := by
  subst hm
  exact f29_any w bC cl M p so rest A qs he hn hq hB0 hM hok hlen hR hw
theorem f21_m (w : World) (bC cl M m : Nat) (p : PSt) (so : Sv) (rest : List Value) (A : Option Addr) (qs : List Int) (hm : qs.length = m) (he : qs.length % 6 = 0) (hcl : qs.length ≤ cl) (hn : qs.length ≤ 48) (hq : ∀ q ∈ qs, Opd q) (hB0 : p.Bd M) (hM : M + 60 * 2147483648 < 2 ^ 53) (hok : slOk so p.out.length 7 (encS p.out)) (hlen : p.out.length ≤ 80000) (hR : RdF w (((bC, slV so p.out.length :: .float .f64 (F p.x) :: .float .f64 (F p.y) :: .bool p.o :: .float .f64 (F p.fx) :: .float .f64 (F p.fy) :: rest, 46) :: slH so (encS p.out) 34).map (·.1)) A (qs.map F)) (hw : Hp w (((bC, slV so p.out.length :: .float .f64 (F p.x) :: .float .f64 (F p.y) :: .bool p.o :: .float .f64 (F p.fx) :: .float .f64 (F p.fy) :: rest, 46) :: slH so (encS p.out) 34).map (·.1)) ((bC, slV so p.out.length :: .float .f64 (F p.x) :: .float .f64 (F p.y) :: .bool p.o :: .float .f64 (F p.fx) :: .float .f64 (F p.fy) :: rest, 46) :: slH so (encS p.out) 34) w) : Calls Tryz.prog 21 [.pointer (some ⟨bC, 0, none⟩), .slice A m cl].toArray w (Out w (((bC, slV so p.out.length :: .float .f64 (F p.x) :: .float .f64 (F p.y) :: .bool p.o :: .float .f64 (F p.fx) :: .float .f64 (F p.fy) :: rest, 46) :: slH so (encS p.out) 34).map (·.1)) (fun z : Sv => slOk z (curvesP p qs).out.length 7 (encS (curvesP p qs).out)) (fun z => .tuple #[]) (fun z => (bC, slV z (curvesP p qs).out.length :: .float .f64 (F (curvesP p qs).x) :: .float .f64 (F (curvesP p qs).y) :: .bool (curvesP p qs).o :: .float .f64 (F (curvesP p qs).fx) :: .float .f64 (F (curvesP p qs).fy) :: rest, 46) :: slH z (encS (curvesP p qs).out) 34)) := by
  subst hm
  exact f21_any w bC cl M p so rest A qs he hcl hn hq hB0 hM hok hlen hR hw
theorem hv6 {p : PSt} {l : List Int} : hvP true p l = hvP (sideB 6 0) p l := rfl
theorem hv7 {p : PSt} {l : List Int} : hvP false p l = hvP (sideB 7 0) p l := rfl
set_option maxHeartbeats 8000000 in
theorem f26_any (w : World) (bC M v : Nat) (p : PSt) (so : Sv) (sf : Fv) (rest : List Value) (qs : List Int) (hq48 : qs.length ≤ 48) (hq : ∀ q ∈ qs, Opd q) (hB0 : p.Bd M) (hM : M + 120 * 2147483648 < 2 ^ 53) (hok : slOk so p.out.length 7 (encS p.out)) (hfv : fvOk sf (qs.map flv)) (hlen : p.out.length ≤ 70000) (hw : Hp w (((bC, slV so p.out.length :: .float .f64 (F p.x) :: .float .f64 (F p.y) :: .bool p.o :: .float .f64 (F p.fx) :: .float .f64 (F p.fy) :: fvV sf qs.length :: rest, 46) :: (slH so (encS p.out) 34 ++ fvH sf (qs.map flv) 41)).map (·.1)) ((bC, slV so p.out.length :: .float .f64 (F p.x) :: .float .f64 (F p.y) :: .bool p.o :: .float .f64 (F p.fx) :: .float .f64 (F p.fy) :: fvV sf qs.length :: rest, 46) :: (slH so (encS p.out) 34 ++ fvH sf (qs.map flv) 41)) w) : Calls Tryz.prog 26 [.pointer (some ⟨bC, 0, none⟩), .int .u8 v].toArray w (OutP w (((bC, slV so p.out.length :: .float .f64 (F p.x) :: .float .f64 (F p.y) :: .bool p.o :: .float .f64 (F p.fx) :: .float .f64 (F p.fy) :: fvV sf qs.length :: rest, 46) :: (slH so (encS p.out) 34 ++ fvH sf (qs.map flv) 41)).map (·.1)) (fun z : PSt × Sv => pathP v p qs = some z.1 ∧ slOk z.2 z.1.out.length 7 (encS z.1.out)) (fun z => .tuple #[]) (fun z => (bC, slV z.2 z.1.out.length :: .float .f64 (F z.1.x) :: .float .f64 (F z.1.y) :: .bool z.1.o :: .float .f64 (F z.1.fx) :: .float .f64 (F z.1.fy) :: fvV sf qs.length :: rest, 46) :: (slH z.2 (encS z.1.out) 34 ++ fvH sf (qs.map flv) 41)) PO) := by
 have hP : Pq PO (bodyPost Tryz.prog Tryz.f26 (OutP w (((bC, slV so p.out.length :: .float .f64 (F p.x) :: .float .f64 (F p.y) :: .bool p.o :: .float .f64 (F p.fx) :: .float .f64 (F p.fy) :: fvV sf qs.length :: rest, 46) :: (slH so (encS p.out) 34 ++ fvH sf (qs.map flv) 41)).map (·.1)) (fun z : PSt × Sv => pathP v p qs = some z.1 ∧ slOk z.2 z.1.out.length 7 (encS z.1.out)) (fun z => .tuple #[]) (fun z => (bC, slV z.2 z.1.out.length :: .float .f64 (F z.1.x) :: .float .f64 (F z.1.y) :: .bool z.1.o :: .float .f64 (F z.1.fx) :: .float .f64 (F z.1.fy) :: fvV sf qs.length :: rest, 46) :: (slH z.2 (encS z.1.out) 34 ++ fvH sf (qs.map flv) 41)) PO)) 151 [] w (((bC, slV so p.out.length :: .float .f64 (F p.x) :: .float .f64 (F p.y) :: .bool p.o :: .float .f64 (F p.fx) :: .float .f64 (F p.fy) :: fvV sf qs.length :: rest, 46) :: (slH so (encS p.out) 34 ++ fvH sf (qs.map flv) 41)).map (·.1)) := bodyP_out
 have hnil := fvOk.nil hfv
 rw [List.length_map] at hnil
 refine enter (n := 151) Tryz.func26 rfl rfl rfl hw ?_
 refine c_seq ?_
 refine c_drawH mixed rfl ?_
 refine dM 0 rfl rfl ?_
 refine dN 1 rfl rfl ?_
 refine dV 2 rfl (y_fieldAddr fo_46_1 rfl) ?_
 refine dV 3 rfl (y_load1 ld_44 rfl m0 rfl) ?_
 refine dM 4 rfl rfl ?_
 refine dN 5 rfl rfl ?_
 refine dV 6 rfl (y_fieldAddr fo_46_1 rfl) ?_
 refine dV 7 rfl (y_load1 ld_44 rfl m0 rfl) ?_
 refine dV 8 rfl (y_lenFv sl_44 rfl hnil) ?_
 refine dV 9 rfl (y_assign rfl) ?_
 refine dV 10 rfl (y_assign rfl) ?_
 refine d_end (by kernel_rfl) (.cons .here .refl) ?_
 refine qR ?_
 refine lM rfl ?_
 refine nQ ?_
 refine c_block ?_
 refine cR ?_
 refine lB rfl rfl rfl rfl ?_
 refine lA rfl ?_
 refine nQ ?_
 refine c_cond rfl (fun hc19 => ?_) (fun hc19 => ?_)
 ·have hv : v = 5 := by simp only [beq_iff_eq] at hc19; omega
  subst hv
  refine cR ?_
  refine lM rfl ?_
  refine lB rfl rfl rfl rfl ?_
  refine lM rfl ?_
  refine l_split (t := 23) rfl rfl (fun hs23 => ?_) (fun hs23 => ?_)
  ·refine l_want rfl rfl ?_
   refine lM rfl ?_
   refine l_want rfl rfl ?_
   refine lV (y_rem rfl rfl (by decide) (remV 2 rfl)) ?_
   refine l_want rfl rfl ?_
   refine lB rfl rfl rfl rfl ?_
   refine lV (y_pick rfl rfl rfl) ?_
   refine l_callP hP ok_12 rfl rfl (out_keepP (fun w1 => f12_any w1 _)) ?_
   intro _ hn
   have hn1 : 2 ≤ qs.length := by simp only [decide_eq_true_eq] at hs23; omega
   have hn2 : qs.length % 2 = 0 := by simp only [beq_iff_eq] at hn; omega
   obtain ⟨g, pre, sp, cap, rfl⟩ := hfv.some (by rw [List.length_map]; omega)
   have hcap : qs.length ≤ cap := by have := hfv.1; rwa [List.length_map] at this
   refine nG ?_
   refine lM rfl ?_
   refine lM rfl ?_
   refine l_call ok_29 rfl rfl (out_headF (H1 := (bC, slV so p.out.length :: .float .f64 (F p.x) :: .float .f64 (F p.y) :: .bool p.o :: .float .f64 (F p.fx) :: .float .f64 (F p.fy) :: (fvV (some (g, pre, sp, cap)) qs.length :: rest), 46) :: slH so (encS p.out) 34) (R := fvH (some (g, pre, sp, cap)) (qs.map flv) 41) (fun w1 ha hb => f29_any w1 bC cap M p so (fvV (some (g, pre, sp, cap)) qs.length :: rest) _ qs hn2 hq48 hq hB0 (by omega) hok (by omega) (RdF_fv ha) hb)) ?_
   intro so2 hokso2
   refine l_nil ?_
   refine q_block ?_
   exact body_ret (rs := []) rfl (vs := []) trivial (out_endP (linesP p qs, so2) ⟨(by simp only [pathP]; simp [hn1, hn2]), hokso2⟩ rfl .refl) _ (.inl rfl)
  ·refine l_not rfl rfl rfl rfl ?_
   refine l_not rfl rfl rfl rfl ?_
   refine l_not rfl rfl rfl rfl ?_
   refine lV (y_pick rfl rfl rfl) ?_
   refine l_callP hP ok_12 rfl rfl (out_keepP (fun w1 => f12_any w1 _)) ?_
   intro _ hn
   cases hn
 ·refine c_seq ?_
  refine cR ?_
  refine lB rfl rfl rfl rfl ?_
  refine lA rfl ?_
  refine nQ ?_
  refine c_cond rfl (fun hc32 => ?_) (fun hc32 => ?_)
  ·have hv : v = 6 := by simp only [beq_iff_eq] at hc32; omega
   subst hv
   refine kQ ?_
   refine c_true rfl rfl ?_
   refine cR ?_
   refine lM rfl ?_
   refine lB rfl rfl rfl rfl ?_
   refine l_callP hP ok_12 rfl rfl (out_keepP (fun w1 => f12_any w1 _)) ?_
   intro _ hn
   have hn1 : 1 ≤ qs.length := by simp only [decide_eq_true_eq] at hn; omega
   obtain ⟨g, pre, sp, cap, rfl⟩ := hfv.some (by rw [List.length_map]; omega)
   have hcap : qs.length ≤ cap := by have := hfv.1; rwa [List.length_map] at this
   refine nR ?_
   refine lM rfl ?_
   refine lV (y_lenFv sl_44 rfl (fun h => by cases h)) ?_
   refine lM rfl ?_
   refine nQ ?_
   refine c_block ?_
   refine c_loop (ι := Nat × PSt × Sv) (φ := fun z => z.1 ≤ qs.length ∧ hvP (sideB 6 z.1) z.2.1 (qs.drop z.1) = hvP (sideB 6 0) p qs ∧ z.2.1.Bd (M + z.1 * 2147483648) ∧ slOk z.2.2 z.2.1.out.length 7 (encS z.2.1.out) ∧ z.2.1.out.length ≤ p.out.length + z.1) (L' := fun z => [(0, .pointer (some ⟨bC, 0, none⟩)), (1, .int .u8 (6 : Nat)), (38, fvV (some (g, pre, sp, cap)) qs.length), (39, .int .i64 qs.length), (40, .int .i64 (z.1 : Int))]) (H' := fun z => (bC, slV z.2.2 z.2.1.out.length :: .float .f64 (F z.2.1.x) :: .float .f64 (F z.2.1.y) :: .bool z.2.1.o :: .float .f64 (F z.2.1.fx) :: .float .f64 (F z.2.1.fy) :: fvV (some (g, pre, sp, cap)) qs.length :: rest, 46) :: (slH z.2.2 (encS z.2.1.out) 34 ++ fvH (some (g, pre, sp, cap)) (qs.map flv) 41)) (fun z => qs.length - z.1) (0, p, so) ⟨Nat.zero_le _, rfl, by simpa using hB0, hok, Nat.le_refl _⟩ ⟨rfl, rfl, rfl, rfl, rfl, trivial⟩ (.cons .here .refl) ?_
   intro ⟨k, p1, so1⟩ ⟨hk, hE, hB, hok1, hol⟩
   simp only at hk hE hB hok1 hol ⊢
   refine cR ?_
   refine lB rfl rfl rfl rfl ?_
   refine nQ ?_
   refine c_seq ?_
   refine c_cond rfl (fun hc41 => ?_) (fun hc41 => ?_)
   ·have hk2 : k < qs.length := by simp only [decide_eq_true_eq] at hc41; omega
    obtain ⟨a, h1, hd⟩ := drop1 (l := qs) (k := k) hk2
    refine kQ ?_
    refine c_seq ?_
    refine c_block ?_
    refine cR ?_
    refine lM rfl ?_
    refine lV (y_indexFv (j := k) es_44 rfl rfl (by omega)) ?_
    refine lV (y_load1 ld_41 rfl (List.mem_cons_of_mem _ (List.mem_append_right _ (.head _))) (fv_at (map_at (f := flv) h1))) ?_
    refine lA rfl ?_
    refine lA rfl ?_
    refine nR ?_
    refine lM rfl ?_
    refine lV (y_rem rfl rfl (by decide) (remV 2 rfl)) ?_
    refine lB rfl rfl rfl rfl ?_
    refine lM rfl ?_
    refine lB rfl rfl rfl rfl ?_
    refine lV (y_eqBool ub_4 rfl rfl) ?_
    refine nQ ?_
    refine c_cond rfl (fun hc50 => ?_) (fun hc50 => ?_)
    ·have hB2 := lineP_bd hB (hq a (mem_at h1)) Opd_zero
     have hB3 := hB2.mono (N := M + (k + 1) * 2147483648) (by omega)
     have hE2 : hvP (sideB 6 (k + 1)) (lineP p1 a 0) (qs.drop (k + 1)) = hvP (sideB 6 0) p qs := by rw [← hE, hd, hvP_step, sideB_next, show sideB 6 k = true from hc50]; rfl
     refine c_region ?_
     refine lM rfl ?_
     refine lN rfl ?_
     refine lV (y_fieldAddr fo_46_0 rfl) ?_
     refine lM rfl ?_
     refine l_call ok_30 rfl rfl (out_headF (H1 := (bC, slV so1 p1.out.length :: .float .f64 (F p1.x) :: .float .f64 (F p1.y) :: .bool p1.o :: .float .f64 (F p1.fx) :: .float .f64 (F p1.fy) :: (fvV (some (g, pre, sp, cap)) qs.length :: rest), 46) :: slH so1 (encS p1.out) 34) (R := fvH (some (g, pre, sp, cap)) (qs.map flv) 41) (fun w1 ha hb => f30_any w1 bC p1.x p1.y p1.fx p1.fy a 0 (F a) 0 p1.o p1.out so1 (fvV (some (g, pre, sp, cap)) qs.length :: rest) (by have := hB.x; omega) (by have := hB.y; omega) (RF_F (hq a (mem_at h1)).lt) RF_zero (by have := hB2.x; unfold lineP at this; simp only at this; omega) (by have := hB2.y; unfold lineP at this; simp only at this; omega) hok1 (by omega) hb)) ?_
     intro so2 hok2
     refine l_nil ?_
     refine q_block ?_
     refine qG ?_
     refine lV (y_bin rfl rfl rfl (fitN (m := k + 1) (by omega) (by omega))) ?_
     refine lM rfl ?_
     refine l_nil ?_
     exact q_rnd (k + 1, lineP p1 a 0, so2) ⟨by simp only; omega, hE2, hB3, hok2, by simp [lineP]; omega⟩ (by simp only; omega) ⟨rfl, rfl, rfl, rfl, rfl, trivial⟩ (.cons .here .refl)
    ·have hB2 := lineP_bd hB Opd_zero (hq a (mem_at h1))
     have hB3 := hB2.mono (N := M + (k + 1) * 2147483648) (by omega)
     have hE2 : hvP (sideB 6 (k + 1)) (lineP p1 0 a) (qs.drop (k + 1)) = hvP (sideB 6 0) p qs := by rw [← hE, hd, hvP_step, sideB_next, show sideB 6 k = false from hc50]; rfl
     refine c_region ?_
     refine lM rfl ?_
     refine lN rfl ?_
     refine lV (y_fieldAddr fo_46_0 rfl) ?_
     refine lM rfl ?_
     refine l_call ok_30 rfl rfl (out_headF (H1 := (bC, slV so1 p1.out.length :: .float .f64 (F p1.x) :: .float .f64 (F p1.y) :: .bool p1.o :: .float .f64 (F p1.fx) :: .float .f64 (F p1.fy) :: (fvV (some (g, pre, sp, cap)) qs.length :: rest), 46) :: slH so1 (encS p1.out) 34) (R := fvH (some (g, pre, sp, cap)) (qs.map flv) 41) (fun w1 ha hb => f30_any w1 bC p1.x p1.y p1.fx p1.fy 0 a 0 (F a) p1.o p1.out so1 (fvV (some (g, pre, sp, cap)) qs.length :: rest) (by have := hB.x; omega) (by have := hB.y; omega) RF_zero (RF_F (hq a (mem_at h1)).lt) (by have := hB2.x; unfold lineP at this; simp only at this; omega) (by have := hB2.y; unfold lineP at this; simp only at this; omega) hok1 (by omega) hb)) ?_
     intro so2 hok2
     refine l_nil ?_
     refine q_block ?_
     refine qG ?_
     refine lV (y_bin rfl rfl rfl (fitN (m := k + 1) (by omega) (by omega))) ?_
     refine lM rfl ?_
     refine l_nil ?_
     exact q_rnd (k + 1, lineP p1 0 a, so2) ⟨by simp only; omega, hE2, hB3, hok2, by simp [lineP]; omega⟩ (by simp only; omega) ⟨rfl, rfl, rfl, rfl, rfl, trivial⟩ (.cons .here .refl)
   ·have hd : qs.drop k = [] := List.drop_of_length_le (by simp only [decide_eq_false_iff_not] at hc41; omega)
    rw [hd] at hE
    have hE2 : p1 = hvP (sideB 6 0) p qs := hE
    subst hE2
    refine c_exit ?_
    refine q_then_exit ?_
    refine q_rnd_exit ?_
    refine q_block_exit ?_
    refine q_block ?_
    exact body_ret (rs := []) rfl (vs := []) trivial (out_endP (hvP (sideB 6 0) p qs, so1) ⟨(by simp only [pathP]; simp [hn1]; exact hv6), hok1⟩ rfl .refl) _ (.inl rfl)
  ·refine c_region ?_
   refine lB rfl rfl rfl rfl ?_
   refine lA rfl ?_
   refine nQ ?_
   refine c_cond rfl (fun hc32 => ?_) (fun hc32 => ?_)
   ·have hv : v = 7 := by simp only [beq_iff_eq] at hc32; omega
    subst hv
    refine cR ?_
    refine lM rfl ?_
    refine lB rfl rfl rfl rfl ?_
    refine l_callP hP ok_12 rfl rfl (out_keepP (fun w1 => f12_any w1 _)) ?_
    intro _ hn
    have hn1 : 1 ≤ qs.length := by simp only [decide_eq_true_eq] at hn; omega
    obtain ⟨g, pre, sp, cap, rfl⟩ := hfv.some (by rw [List.length_map]; omega)
    have hcap : qs.length ≤ cap := by have := hfv.1; rwa [List.length_map] at this
    refine nR ?_
    refine lM rfl ?_
    refine lV (y_lenFv sl_44 rfl (fun h => by cases h)) ?_
    refine lM rfl ?_
    refine nQ ?_
    refine c_block ?_
    refine c_loop (ι := Nat × PSt × Sv) (φ := fun z => z.1 ≤ qs.length ∧ hvP (sideB 7 z.1) z.2.1 (qs.drop z.1) = hvP (sideB 7 0) p qs ∧ z.2.1.Bd (M + z.1 * 2147483648) ∧ slOk z.2.2 z.2.1.out.length 7 (encS z.2.1.out) ∧ z.2.1.out.length ≤ p.out.length + z.1) (L' := fun z => [(0, .pointer (some ⟨bC, 0, none⟩)), (1, .int .u8 (7 : Nat)), (38, fvV (some (g, pre, sp, cap)) qs.length), (39, .int .i64 qs.length), (40, .int .i64 (z.1 : Int))]) (H' := fun z => (bC, slV z.2.2 z.2.1.out.length :: .float .f64 (F z.2.1.x) :: .float .f64 (F z.2.1.y) :: .bool z.2.1.o :: .float .f64 (F z.2.1.fx) :: .float .f64 (F z.2.1.fy) :: fvV (some (g, pre, sp, cap)) qs.length :: rest, 46) :: (slH z.2.2 (encS z.2.1.out) 34 ++ fvH (some (g, pre, sp, cap)) (qs.map flv) 41)) (fun z => qs.length - z.1) (0, p, so) ⟨Nat.zero_le _, rfl, by simpa using hB0, hok, Nat.le_refl _⟩ ⟨rfl, rfl, rfl, rfl, rfl, trivial⟩ (.cons .here .refl) ?_
    intro ⟨k, p1, so1⟩ ⟨hk, hE, hB, hok1, hol⟩
    simp only at hk hE hB hok1 hol ⊢
    refine cR ?_
    refine lB rfl rfl rfl rfl ?_
    refine nQ ?_
    refine c_seq ?_
    refine c_cond rfl (fun hc41 => ?_) (fun hc41 => ?_)
    ·have hk2 : k < qs.length := by simp only [decide_eq_true_eq] at hc41; omega
     obtain ⟨a, h1, hd⟩ := drop1 (l := qs) (k := k) hk2
     refine kQ ?_
     refine c_seq ?_
     refine c_block ?_
     refine cR ?_
     refine lM rfl ?_
     refine lV (y_indexFv (j := k) es_44 rfl rfl (by omega)) ?_
     refine lV (y_load1 ld_41 rfl (List.mem_cons_of_mem _ (List.mem_append_right _ (.head _))) (fv_at (map_at (f := flv) h1))) ?_
     refine lA rfl ?_
     refine lA rfl ?_
     refine nR ?_
     refine lM rfl ?_
     refine lV (y_rem rfl rfl (by decide) (remV 2 rfl)) ?_
     refine lB rfl rfl rfl rfl ?_
     refine lM rfl ?_
     refine lB rfl rfl rfl rfl ?_
     refine lV (y_eqBool ub_4 rfl rfl) ?_
     refine nQ ?_
     refine c_cond rfl (fun hc50 => ?_) (fun hc50 => ?_)
     ·have hB2 := lineP_bd hB (hq a (mem_at h1)) Opd_zero
      have hB3 := hB2.mono (N := M + (k + 1) * 2147483648) (by omega)
      have hE2 : hvP (sideB 7 (k + 1)) (lineP p1 a 0) (qs.drop (k + 1)) = hvP (sideB 7 0) p qs := by rw [← hE, hd, hvP_step, sideB_next, show sideB 7 k = true from hc50]; rfl
      refine c_region ?_
      refine lM rfl ?_
      refine lN rfl ?_
      refine lV (y_fieldAddr fo_46_0 rfl) ?_
      refine lM rfl ?_
      refine l_call ok_30 rfl rfl (out_headF (H1 := (bC, slV so1 p1.out.length :: .float .f64 (F p1.x) :: .float .f64 (F p1.y) :: .bool p1.o :: .float .f64 (F p1.fx) :: .float .f64 (F p1.fy) :: (fvV (some (g, pre, sp, cap)) qs.length :: rest), 46) :: slH so1 (encS p1.out) 34) (R := fvH (some (g, pre, sp, cap)) (qs.map flv) 41) (fun w1 ha hb => f30_any w1 bC p1.x p1.y p1.fx p1.fy a 0 (F a) 0 p1.o p1.out so1 (fvV (some (g, pre, sp, cap)) qs.length :: rest) (by have := hB.x; omega) (by have := hB.y; omega) (RF_F (hq a (mem_at h1)).lt) RF_zero (by have := hB2.x; unfold lineP at this; simp only at this; omega) (by have := hB2.y; unfold lineP at this; simp only at this; omega) hok1 (by omega) hb)) ?_
      intro so2 hok2
      refine l_nil ?_
      refine q_block ?_
      refine qG ?_
      refine lV (y_bin rfl rfl rfl (fitN (m := k + 1) (by omega) (by omega))) ?_
      refine lM rfl ?_
      refine l_nil ?_
      exact q_rnd (k + 1, lineP p1 a 0, so2) ⟨by simp only; omega, hE2, hB3, hok2, by simp [lineP]; omega⟩ (by simp only; omega) ⟨rfl, rfl, rfl, rfl, rfl, trivial⟩ (.cons .here .refl)
     ·have hB2 := lineP_bd hB Opd_zero (hq a (mem_at h1))
      have hB3 := hB2.mono (N := M + (k + 1) * 2147483648) (by omega)
      have hE2 : hvP (sideB 7 (k + 1)) (lineP p1 0 a) (qs.drop (k + 1)) = hvP (sideB 7 0) p qs := by rw [← hE, hd, hvP_step, sideB_next, show sideB 7 k = false from hc50]; rfl
      refine c_region ?_
      refine lM rfl ?_
      refine lN rfl ?_
      refine lV (y_fieldAddr fo_46_0 rfl) ?_
      refine lM rfl ?_
      refine l_call ok_30 rfl rfl (out_headF (H1 := (bC, slV so1 p1.out.length :: .float .f64 (F p1.x) :: .float .f64 (F p1.y) :: .bool p1.o :: .float .f64 (F p1.fx) :: .float .f64 (F p1.fy) :: (fvV (some (g, pre, sp, cap)) qs.length :: rest), 46) :: slH so1 (encS p1.out) 34) (R := fvH (some (g, pre, sp, cap)) (qs.map flv) 41) (fun w1 ha hb => f30_any w1 bC p1.x p1.y p1.fx p1.fy 0 a 0 (F a) p1.o p1.out so1 (fvV (some (g, pre, sp, cap)) qs.length :: rest) (by have := hB.x; omega) (by have := hB.y; omega) RF_zero (RF_F (hq a (mem_at h1)).lt) (by have := hB2.x; unfold lineP at this; simp only at this; omega) (by have := hB2.y; unfold lineP at this; simp only at this; omega) hok1 (by omega) hb)) ?_
      intro so2 hok2
      refine l_nil ?_
      refine q_block ?_
      refine qG ?_
      refine lV (y_bin rfl rfl rfl (fitN (m := k + 1) (by omega) (by omega))) ?_
      refine lM rfl ?_
      refine l_nil ?_
      exact q_rnd (k + 1, lineP p1 0 a, so2) ⟨by simp only; omega, hE2, hB3, hok2, by simp [lineP]; omega⟩ (by simp only; omega) ⟨rfl, rfl, rfl, rfl, rfl, trivial⟩ (.cons .here .refl)
    ·have hd : qs.drop k = [] := List.drop_of_length_le (by simp only [decide_eq_false_iff_not] at hc41; omega)
     rw [hd] at hE
     have hE2 : p1 = hvP (sideB 7 0) p qs := hE
     subst hE2
     refine c_exit ?_
     refine q_then_exit ?_
     refine q_rnd_exit ?_
     refine q_block_exit ?_
     refine q_block ?_
     exact body_ret (rs := []) rfl (vs := []) trivial (out_endP (hvP (sideB 7 0) p qs, so1) ⟨(by simp only [pathP]; simp [hn1]; exact hv7), hok1⟩ rfl .refl) _ (.inl rfl)
   ·refine cR ?_
    refine lB rfl rfl rfl rfl ?_
    refine lA rfl ?_
    refine nQ ?_
    refine c_cond rfl (fun hc62 => ?_) (fun hc62 => ?_)
    ·have hv : v = 8 := by simp only [beq_iff_eq] at hc62; omega
     subst hv
     refine cR ?_
     refine lM rfl ?_
     refine lB rfl rfl rfl rfl ?_
     refine lM rfl ?_
     refine l_split (t := 66) rfl rfl (fun hs66 => ?_) (fun hs66 => ?_)
     ·refine l_want rfl rfl ?_
      refine lM rfl ?_
      refine l_want rfl rfl ?_
      refine lV (y_rem rfl rfl (by decide) (remV 6 rfl)) ?_
      refine l_want rfl rfl ?_
      refine lB rfl rfl rfl rfl ?_
      refine lV (y_pick rfl rfl rfl) ?_
      refine l_callP hP ok_12 rfl rfl (out_keepP (fun w1 => f12_any w1 _)) ?_
      intro _ hn
      have hn1 : 6 ≤ qs.length := by simp only [decide_eq_true_eq] at hs66; omega
      have hn2 : qs.length % 6 = 0 := by simp only [beq_iff_eq] at hn; omega
      obtain ⟨g, pre, sp, cap, rfl⟩ := hfv.some (by rw [List.length_map]; omega)
      have hcap : qs.length ≤ cap := by have := hfv.1; rwa [List.length_map] at this
      refine nG ?_
      refine lM rfl ?_
      refine lM rfl ?_
      refine l_call ok_21 rfl rfl (out_headF (H1 := (bC, slV so p.out.length :: .float .f64 (F p.x) :: .float .f64 (F p.y) :: .bool p.o :: .float .f64 (F p.fx) :: .float .f64 (F p.fy) :: (fvV (some (g, pre, sp, cap)) qs.length :: rest), 46) :: slH so (encS p.out) 34) (R := fvH (some (g, pre, sp, cap)) (qs.map flv) 41) (fun w1 ha hb => f21_any w1 bC cap M p so (fvV (some (g, pre, sp, cap)) qs.length :: rest) _ qs hn2 hcap hq48 hq hB0 (by omega) hok (by omega) (RdF_fv ha) hb)) ?_
      intro so2 hokso2
      refine l_nil ?_
      refine q_block ?_
      exact body_ret (rs := []) rfl (vs := []) trivial (out_endP (curvesP p qs, so2) ⟨(by simp only [pathP]; simp [hn1, hn2]), hokso2⟩ rfl .refl) _ (.inl rfl)
     ·refine l_not rfl rfl rfl rfl ?_
      refine l_not rfl rfl rfl rfl ?_
      refine l_not rfl rfl rfl rfl ?_
      refine lV (y_pick rfl rfl rfl) ?_
      refine l_callP hP ok_12 rfl rfl (out_keepP (fun w1 => f12_any w1 _)) ?_
      intro _ hn
      cases hn
    ·refine cR ?_
     refine lB rfl rfl rfl rfl ?_
     refine lA rfl ?_
     refine nQ ?_
     refine c_cond rfl (fun hc75 => ?_) (fun hc75 => ?_)
     ·have hv : v = 24 := by simp only [beq_iff_eq] at hc75; omega
      subst hv
      refine cR ?_
      refine lM rfl ?_
      refine lB rfl rfl rfl rfl ?_
      refine lM rfl ?_
      refine l_split (t := 79) rfl rfl (fun hs79 => ?_) (fun hs79 => ?_)
      ·refine l_want rfl rfl ?_
       refine lM rfl ?_
       refine l_want rfl rfl ?_
       refine lV (y_rem rfl rfl (by decide) (remV 6 rfl)) ?_
       refine l_want rfl rfl ?_
       refine lB rfl rfl rfl rfl ?_
       refine lV (y_pick rfl rfl rfl) ?_
       refine l_callP hP ok_12 rfl rfl (out_keepP (fun w1 => f12_any w1 _)) ?_
       intro _ hn
       have hn1 : 8 ≤ qs.length := by simp only [decide_eq_true_eq] at hs79; omega
       have hn2 : qs.length % 6 = 2 := by simp only [beq_iff_eq] at hn; omega
       obtain ⟨g, pre, sp, cap, rfl⟩ := hfv.some (by rw [List.length_map]; omega)
       have hcap : qs.length ≤ cap := by have := hfv.1; rwa [List.length_map] at this
       refine nR ?_
       refine lM rfl ?_
       refine lM rfl ?_
       refine lM rfl ?_
       refine lV (y_bin rfl rfl rfl (fitN (m := qs.length - 2) (by omega) (by omega))) ?_
       refine lV (y_fvTo (fv := some (g, pre, sp, cap)) (xs := qs.map flv) (k := qs.length - 2) es_44 hfv (by rw [List.length_map]; rfl) rfl (by rw [List.length_map]; omega)) ?_
       refine l_call ok_21 rfl rfl (out_headF (H1 := (bC, slV so p.out.length :: .float .f64 (F p.x) :: .float .f64 (F p.y) :: .bool p.o :: .float .f64 (F p.fx) :: .float .f64 (F p.fy) :: (fvV (some (g, pre, sp, cap)) qs.length :: rest), 46) :: slH so (encS p.out) 34) (R := fvH (some (g, pre, sp, cap)) (qs.map flv) 41) (fun w1 ha hb => f21_m w1 bC cap M (qs.length - 2) p so (fvV (some (g, pre, sp, cap)) qs.length :: rest) _ (qs.take (qs.length - 2)) (by rw [List.length_take]; omega) (by rw [List.length_take]; omega) (by rw [List.length_take]; omega) (by rw [List.length_take]; omega) (opd_take hq _) hB0 (by omega) hok (by omega) (RdF.take (RdF_fv ha) _) hb)) ?_
       intro so1 hok1
       have hB1 := (curvesP_bd hB0 (opd_take hq (qs.length - 2))).mono (N := M + 48 * 2147483648) (by rw [List.length_take]; omega)
       have hl1 := curvesP_len (l := qs.take (qs.length - 2)) (p := p)
       rw [List.length_take] at hl1
       refine nG ?_
       refine lM rfl ?_
       refine lM rfl ?_
       refine lM rfl ?_
       refine lV (y_bin rfl rfl rfl (fitN (m := qs.length - 2) (by omega) (by omega))) ?_
       refine lV (y_sliceLo (i := qs.length - 2) es_44 rfl rfl (by omega) hcap) ?_
       refine l_call ok_29 rfl rfl (out_headF (H1 := (bC, slV so1 (curvesP p (qs.take (qs.length - 2))).out.length :: .float .f64 (F (curvesP p (qs.take (qs.length - 2))).x) :: .float .f64 (F (curvesP p (qs.take (qs.length - 2))).y) :: .bool (curvesP p (qs.take (qs.length - 2))).o :: .float .f64 (F (curvesP p (qs.take (qs.length - 2))).fx) :: .float .f64 (F (curvesP p (qs.take (qs.length - 2))).fy) :: (fvV (some (g, pre, sp, cap)) qs.length :: rest), 46) :: slH so1 (encS (curvesP p (qs.take (qs.length - 2))).out) 34) (R := fvH (some (g, pre, sp, cap)) (qs.map flv) 41) (fun w1 ha hb => f29_m w1 bC (cap - (qs.length - 2)) (M + 48 * 2147483648) (qs.length - (qs.length - 2)) (curvesP p (qs.take (qs.length - 2))) so1 (fvV (some (g, pre, sp, cap)) qs.length :: rest) _ (qs.drop (qs.length - 2)) (by rw [List.length_drop]) (by rw [List.length_drop]; omega) (by rw [List.length_drop]; omega) (opd_drop hq _) hB1 (by omega) hok1 (by omega) (RdF.drop (RdF_fv ha) (by omega) hcap) hb)) ?_
       intro so2 hokso2
       refine l_nil ?_
       refine q_block ?_
       exact body_ret (rs := []) rfl (vs := []) trivial (out_endP (linesP (curvesP p (qs.take (qs.length - 2))) (qs.drop (qs.length - 2)), so2) ⟨(by simp only [pathP]; simp [hn1, hn2]), hokso2⟩ rfl .refl) _ (.inl rfl)
      ·refine l_not rfl rfl rfl rfl ?_
       refine l_not rfl rfl rfl rfl ?_
       refine l_not rfl rfl rfl rfl ?_
       refine lV (y_pick rfl rfl rfl) ?_
       refine l_callP hP ok_12 rfl rfl (out_keepP (fun w1 => f12_any w1 _)) ?_
       intro _ hn
       cases hn
     ·refine cR ?_
      refine lB rfl rfl rfl rfl ?_
      refine lA rfl ?_
      refine nQ ?_
      refine c_cond rfl (fun hc97 => ?_) (fun hc97 => ?_)
      ·have hv : v = 25 := by simp only [beq_iff_eq] at hc97; omega
       subst hv
       refine cR ?_
       refine lM rfl ?_
       refine lB rfl rfl rfl rfl ?_
       refine lM rfl ?_
       refine l_split (t := 101) rfl rfl (fun hs101 => ?_) (fun hs101 => ?_)
       ·refine l_want rfl rfl ?_
        refine lM rfl ?_
        refine l_want rfl rfl ?_
        refine lV (y_rem rfl rfl (by decide) (remV 2 rfl)) ?_
        refine l_want rfl rfl ?_
        refine lB rfl rfl rfl rfl ?_
        refine lV (y_pick rfl rfl rfl) ?_
        refine l_callP hP ok_12 rfl rfl (out_keepP (fun w1 => f12_any w1 _)) ?_
        intro _ hn
        have hn1 : 8 ≤ qs.length := by simp only [decide_eq_true_eq] at hs101; omega
        have hn2 : qs.length % 2 = 0 := by simp only [beq_iff_eq] at hn; omega
        obtain ⟨g, pre, sp, cap, rfl⟩ := hfv.some (by rw [List.length_map]; omega)
        have hcap : qs.length ≤ cap := by have := hfv.1; rwa [List.length_map] at this
        refine nR ?_
        refine lM rfl ?_
        refine lM rfl ?_
        refine lM rfl ?_
        refine lV (y_bin rfl rfl rfl (fitN (m := qs.length - 6) (by omega) (by omega))) ?_
        refine lV (y_fvTo (fv := some (g, pre, sp, cap)) (xs := qs.map flv) (k := qs.length - 6) es_44 hfv (by rw [List.length_map]; rfl) rfl (by rw [List.length_map]; omega)) ?_
        refine l_call ok_29 rfl rfl (out_headF (H1 := (bC, slV so p.out.length :: .float .f64 (F p.x) :: .float .f64 (F p.y) :: .bool p.o :: .float .f64 (F p.fx) :: .float .f64 (F p.fy) :: (fvV (some (g, pre, sp, cap)) qs.length :: rest), 46) :: slH so (encS p.out) 34) (R := fvH (some (g, pre, sp, cap)) (qs.map flv) 41) (fun w1 ha hb => f29_m w1 bC cap M (qs.length - 6) p so (fvV (some (g, pre, sp, cap)) qs.length :: rest) _ (qs.take (qs.length - 6)) (by rw [List.length_take]; omega) (by rw [List.length_take]; omega) (by rw [List.length_take]; omega) (opd_take hq _) hB0 (by omega) hok (by omega) (RdF.take (RdF_fv ha) _) hb)) ?_
        intro so1 hok1
        have hB1 := (linesP_bd hB0 (opd_take hq (qs.length - 6))).mono (N := M + 48 * 2147483648) (by rw [List.length_take]; omega)
        have hl1 := linesP_len (l := qs.take (qs.length - 6)) (p := p)
        rw [List.length_take] at hl1
        refine nG ?_
        refine lM rfl ?_
        refine lM rfl ?_
        refine lM rfl ?_
        refine lV (y_bin rfl rfl rfl (fitN (m := qs.length - 6) (by omega) (by omega))) ?_
        refine lV (y_sliceLo (i := qs.length - 6) es_44 rfl rfl (by omega) hcap) ?_
        refine l_call ok_21 rfl rfl (out_headF (H1 := (bC, slV so1 (linesP p (qs.take (qs.length - 6))).out.length :: .float .f64 (F (linesP p (qs.take (qs.length - 6))).x) :: .float .f64 (F (linesP p (qs.take (qs.length - 6))).y) :: .bool (linesP p (qs.take (qs.length - 6))).o :: .float .f64 (F (linesP p (qs.take (qs.length - 6))).fx) :: .float .f64 (F (linesP p (qs.take (qs.length - 6))).fy) :: (fvV (some (g, pre, sp, cap)) qs.length :: rest), 46) :: slH so1 (encS (linesP p (qs.take (qs.length - 6))).out) 34) (R := fvH (some (g, pre, sp, cap)) (qs.map flv) 41) (fun w1 ha hb => f21_m w1 bC (cap - (qs.length - 6)) (M + 48 * 2147483648) (qs.length - (qs.length - 6)) (linesP p (qs.take (qs.length - 6))) so1 (fvV (some (g, pre, sp, cap)) qs.length :: rest) _ (qs.drop (qs.length - 6)) (by rw [List.length_drop]) (by rw [List.length_drop]; omega) (by rw [List.length_drop]; omega) (by rw [List.length_drop]; omega) (opd_drop hq _) hB1 (by omega) hok1 (by omega) (RdF.drop (RdF_fv ha) (by omega) hcap) hb)) ?_
        intro so2 hokso2
        refine l_nil ?_
        refine q_block ?_
        exact body_ret (rs := []) rfl (vs := []) trivial (out_endP (curvesP (linesP p (qs.take (qs.length - 6))) (qs.drop (qs.length - 6)), so2) ⟨(by simp only [pathP]; simp [hn1, hn2]), hokso2⟩ rfl .refl) _ (.inl rfl)
       ·refine l_not rfl rfl rfl rfl ?_
        refine l_not rfl rfl rfl rfl ?_
        refine l_not rfl rfl rfl rfl ?_
        refine lV (y_pick rfl rfl rfl) ?_
        refine l_callP hP ok_12 rfl rfl (out_keepP (fun w1 => f12_any w1 _)) ?_
        intro _ hn
        cases hn
      ·refine c_seq ?_
       refine cR ?_
       refine lB rfl rfl rfl rfl ?_
       refine lA rfl ?_
       refine nQ ?_
       refine c_cond rfl (fun hc119 => ?_) (fun hc119 => ?_)
       ·have hv : v = 26 := by simp only [beq_iff_eq] at hc119; omega
        subst hv
        refine kQ ?_
        refine c_true rfl rfl ?_
        refine cR ?_
        refine lM rfl ?_
        refine lB rfl rfl rfl rfl ?_
        refine lM rfl ?_
        refine l_split (t := 124) rfl rfl (fun hs124 => ?_) (fun hs124 => ?_)
        ·refine l_want rfl rfl ?_
         refine lM rfl ?_
         refine l_want rfl rfl ?_
         refine lV (y_rem rfl rfl (by decide) (remV 4 rfl)) ?_
         refine l_want rfl rfl ?_
         refine lB rfl rfl rfl rfl ?_
         refine lV (y_pick rfl rfl rfl) ?_
         refine l_callP hP ok_12 rfl rfl (out_keepP (fun w1 => f12_any w1 _)) ?_
         intro _ hn
         have hn1 : 4 ≤ qs.length := by simp only [decide_eq_true_eq] at hs124; omega
         have hn2 : qs.length % 4 < 2 := by simp only [decide_eq_true_eq] at hn; omega
         obtain ⟨g, pre, sp, cap, rfl⟩ := hfv.some (by rw [List.length_map]; omega)
         have hcap : qs.length ≤ cap := by have := hfv.1; rwa [List.length_map] at this
         refine nG ?_
         refine lM rfl ?_
         refine lM rfl ?_
         refine lM rfl ?_
         refine lB rfl rfl rfl rfl ?_
         refine l_call ok_31 rfl rfl (out_headF (H1 := (bC, slV so p.out.length :: .float .f64 (F p.x) :: .float .f64 (F p.y) :: .bool p.o :: .float .f64 (F p.fx) :: .float .f64 (F p.fy) :: (fvV (some (g, pre, sp, cap)) qs.length :: rest), 46) :: slH so (encS p.out) 34) (R := fvH (some (g, pre, sp, cap)) (qs.map flv) 41) (fun w1 ha hb => f31_any w1 bC cap M false p so (fvV (some (g, pre, sp, cap)) qs.length :: rest) _ qs hn1 hn2 hcap hq48 hq hB0 (by omega) hok (by omega) (RdF_fv ha) hb)) ?_
         intro so2 hokso2
         refine l_nil ?_
         refine q_block ?_
         exact body_ret (rs := []) rfl (vs := []) trivial (out_endP (straightS false p qs, so2) ⟨(by simp only [pathP]; simp [hn1, hn2]), hokso2⟩ rfl .refl) _ (.inl rfl)
        ·refine l_not rfl rfl rfl rfl ?_
         refine l_not rfl rfl rfl rfl ?_
         refine l_not rfl rfl rfl rfl ?_
         refine lV (y_pick rfl rfl rfl) ?_
         refine l_callP hP ok_12 rfl rfl (out_keepP (fun w1 => f12_any w1 _)) ?_
         intro _ hn
         cases hn
       ·refine c_region ?_
        refine lB rfl rfl rfl rfl ?_
        refine lA rfl ?_
        refine nQ ?_
        refine c_cond rfl (fun hc119 => ?_) (fun hc119 => ?_)
        ·have hv : v = 27 := by simp only [beq_iff_eq] at hc119; omega
         subst hv
         refine cR ?_
         refine lM rfl ?_
         refine lB rfl rfl rfl rfl ?_
         refine lM rfl ?_
         refine l_split (t := 124) rfl rfl (fun hs124 => ?_) (fun hs124 => ?_)
         ·refine l_want rfl rfl ?_
          refine lM rfl ?_
          refine l_want rfl rfl ?_
          refine lV (y_rem rfl rfl (by decide) (remV 4 rfl)) ?_
          refine l_want rfl rfl ?_
          refine lB rfl rfl rfl rfl ?_
          refine lV (y_pick rfl rfl rfl) ?_
          refine l_callP hP ok_12 rfl rfl (out_keepP (fun w1 => f12_any w1 _)) ?_
          intro _ hn
          have hn1 : 4 ≤ qs.length := by simp only [decide_eq_true_eq] at hs124; omega
          have hn2 : qs.length % 4 < 2 := by simp only [decide_eq_true_eq] at hn; omega
          obtain ⟨g, pre, sp, cap, rfl⟩ := hfv.some (by rw [List.length_map]; omega)
          have hcap : qs.length ≤ cap := by have := hfv.1; rwa [List.length_map] at this
          refine nG ?_
          refine lM rfl ?_
          refine lM rfl ?_
          refine lM rfl ?_
          refine lB rfl rfl rfl rfl ?_
          refine l_call ok_31 rfl rfl (out_headF (H1 := (bC, slV so p.out.length :: .float .f64 (F p.x) :: .float .f64 (F p.y) :: .bool p.o :: .float .f64 (F p.fx) :: .float .f64 (F p.fy) :: (fvV (some (g, pre, sp, cap)) qs.length :: rest), 46) :: slH so (encS p.out) 34) (R := fvH (some (g, pre, sp, cap)) (qs.map flv) 41) (fun w1 ha hb => f31_any w1 bC cap M true p so (fvV (some (g, pre, sp, cap)) qs.length :: rest) _ qs hn1 hn2 hcap hq48 hq hB0 (by omega) hok (by omega) (RdF_fv ha) hb)) ?_
          intro so2 hokso2
          refine l_nil ?_
          refine q_block ?_
          exact body_ret (rs := []) rfl (vs := []) trivial (out_endP (straightS true p qs, so2) ⟨(by simp only [pathP]; simp [hn1, hn2]), hokso2⟩ rfl .refl) _ (.inl rfl)
         ·refine l_not rfl rfl rfl rfl ?_
          refine l_not rfl rfl rfl rfl ?_
          refine l_not rfl rfl rfl rfl ?_
          refine lV (y_pick rfl rfl rfl) ?_
          refine l_callP hP ok_12 rfl rfl (out_keepP (fun w1 => f12_any w1 _)) ?_
          intro _ hn
          cases hn
        ·refine c_seq ?_
         refine cR ?_
         refine lB rfl rfl rfl rfl ?_
         refine lA rfl ?_
         refine nQ ?_
         refine c_cond rfl (fun hc135 => ?_) (fun hc135 => ?_)
         ·have hv : v = 30 := by simp only [beq_iff_eq] at hc135; omega
          subst hv
          refine kQ ?_
          refine c_true rfl rfl ?_
          refine cR ?_
          refine lM rfl ?_
          refine lB rfl rfl rfl rfl ?_
          refine lM rfl ?_
          refine l_split (t := 140) rfl rfl (fun hs140 => ?_) (fun hs140 => ?_)
          ·refine l_want rfl rfl ?_
           refine lM rfl ?_
           refine l_want rfl rfl ?_
           refine lV (y_rem rfl rfl (by decide) (remV 4 rfl)) ?_
           refine l_want rfl rfl ?_
           refine lB rfl rfl rfl rfl ?_
           refine lV (y_pick rfl rfl rfl) ?_
           refine l_callP hP ok_12 rfl rfl (out_keepP (fun w1 => f12_any w1 _)) ?_
           intro _ hn
           have hn1 : 4 ≤ qs.length := by simp only [decide_eq_true_eq] at hs140; omega
           have hn2 : qs.length % 4 < 2 := by simp only [decide_eq_true_eq] at hn; omega
           obtain ⟨g, pre, sp, cap, rfl⟩ := hfv.some (by rw [List.length_map]; omega)
           have hcap : qs.length ≤ cap := by have := hfv.1; rwa [List.length_map] at this
           refine nG ?_
           refine lM rfl ?_
           refine lM rfl ?_
           refine lM rfl ?_
           refine lB rfl rfl rfl rfl ?_
           refine l_call ok_32 rfl rfl (out_headF (H1 := (bC, slV so p.out.length :: .float .f64 (F p.x) :: .float .f64 (F p.y) :: .bool p.o :: .float .f64 (F p.fx) :: .float .f64 (F p.fy) :: (fvV (some (g, pre, sp, cap)) qs.length :: rest), 46) :: slH so (encS p.out) 34) (R := fvH (some (g, pre, sp, cap)) (qs.map flv) 41) (fun w1 ha hb => f32_any w1 bC cap M false p so (fvV (some (g, pre, sp, cap)) qs.length :: rest) _ qs hcap hq48 hq hB0 (by omega) hok (by omega) (RdF_fv ha) hb)) ?_
           intro so2 hokso2
           refine l_nil ?_
           refine q_block ?_
           exact body_ret (rs := []) rfl (vs := []) trivial (out_endP (turningP false p qs, so2) ⟨(by simp only [pathP]; simp [hn1, hn2]), hokso2⟩ rfl .refl) _ (.inl rfl)
          ·refine l_not rfl rfl rfl rfl ?_
           refine l_not rfl rfl rfl rfl ?_
           refine l_not rfl rfl rfl rfl ?_
           refine lV (y_pick rfl rfl rfl) ?_
           refine l_callP hP ok_12 rfl rfl (out_keepP (fun w1 => f12_any w1 _)) ?_
           intro _ hn
           cases hn
         ·refine c_region ?_
          refine lB rfl rfl rfl rfl ?_
          refine lA rfl ?_
          refine nQ ?_
          refine c_cond rfl (fun hc135 => ?_) (fun hc135 => ?_)
          ·have hv : v = 31 := by simp only [beq_iff_eq] at hc135; omega
           subst hv
           refine cR ?_
           refine lM rfl ?_
           refine lB rfl rfl rfl rfl ?_
           refine lM rfl ?_
           refine l_split (t := 140) rfl rfl (fun hs140 => ?_) (fun hs140 => ?_)
           ·refine l_want rfl rfl ?_
            refine lM rfl ?_
            refine l_want rfl rfl ?_
            refine lV (y_rem rfl rfl (by decide) (remV 4 rfl)) ?_
            refine l_want rfl rfl ?_
            refine lB rfl rfl rfl rfl ?_
            refine lV (y_pick rfl rfl rfl) ?_
            refine l_callP hP ok_12 rfl rfl (out_keepP (fun w1 => f12_any w1 _)) ?_
            intro _ hn
            have hn1 : 4 ≤ qs.length := by simp only [decide_eq_true_eq] at hs140; omega
            have hn2 : qs.length % 4 < 2 := by simp only [decide_eq_true_eq] at hn; omega
            obtain ⟨g, pre, sp, cap, rfl⟩ := hfv.some (by rw [List.length_map]; omega)
            have hcap : qs.length ≤ cap := by have := hfv.1; rwa [List.length_map] at this
            refine nG ?_
            refine lM rfl ?_
            refine lM rfl ?_
            refine lM rfl ?_
            refine lB rfl rfl rfl rfl ?_
            refine l_call ok_32 rfl rfl (out_headF (H1 := (bC, slV so p.out.length :: .float .f64 (F p.x) :: .float .f64 (F p.y) :: .bool p.o :: .float .f64 (F p.fx) :: .float .f64 (F p.fy) :: (fvV (some (g, pre, sp, cap)) qs.length :: rest), 46) :: slH so (encS p.out) 34) (R := fvH (some (g, pre, sp, cap)) (qs.map flv) 41) (fun w1 ha hb => f32_any w1 bC cap M true p so (fvV (some (g, pre, sp, cap)) qs.length :: rest) _ qs hcap hq48 hq hB0 (by omega) hok (by omega) (RdF_fv ha) hb)) ?_
            intro so2 hokso2
            refine l_nil ?_
            refine q_block ?_
            exact body_ret (rs := []) rfl (vs := []) trivial (out_endP (turningP true p qs, so2) ⟨(by simp only [pathP]; simp [hn1, hn2]), hokso2⟩ rfl .refl) _ (.inl rfl)
           ·refine l_not rfl rfl rfl rfl ?_
            refine l_not rfl rfl rfl rfl ?_
            refine l_not rfl rfl rfl rfl ?_
            refine lV (y_pick rfl rfl rfl) ?_
            refine l_callP hP ok_12 rfl rfl (out_keepP (fun w1 => f12_any w1 _)) ?_
            intro _ hn
            cases hn
          ·refine c_region ?_
           refine l_callP hP ok_19 rfl rfl (out_newP (fun w1 hw1 => f19_any w1)) ?_
           intro _ hF
           exact absurd hF (by simp)
end Go.Proofs.YtbepljmeflndkaaGreatDoor
namespace Go.Proofs.YtbepljmeflndkaaGreatDoor
open Go.Eng Go.Fl
theorem consN {α : Type} {l : List α} {n : Nat} (h : l.length = n + 1) : ∃ a r, l = a :: r ∧ r.length = n := by
  cases l with
  | nil => simp at h
  | cons a r => exact ⟨a, r, rfl, by simpa using h⟩
theorem add_le {a b : Int} {m n : Nat} (ha : a.natAbs ≤ m) (hb : b.natAbs ≤ n) : (a + b).natAbs ≤ m + n := Nat.le_trans (Int.natAbs_add_le a b) (Nat.add_le_add ha hb)
theorem neg_le {a : Int} {m : Nat} (ha : a.natAbs ≤ m) : (-a).natAbs ≤ m := by rw [Int.natAbs_neg]; exact ha
/-- A curve whose last step may be a sum. -/
theorem curveP_bd2 {p : PSt} {M K : Nat} {a b c d e f : Int} (h : p.Bd M) (ha : a.natAbs ≤ K) (hb : b.natAbs ≤ K) (hc : c.natAbs ≤ K) (hd : d.natAbs ≤ K) (he : e.natAbs ≤ K) (hf : f.natAbs ≤ K) : (curveP p a b c d e f).Bd (M + 3 * K) :=
  ⟨(abs4 h.x ha hc he).2.2, (abs4 h.y hb hd hf).2.2, Nat.le_trans h.fx (Nat.le_add_right _ _), Nat.le_trans h.fy (Nat.le_add_right _ _)⟩
theorem cmp_gt (a b : Int) : cmpB .gtr (compare a b) = some (decide (b < a)) := by
  unfold cmpB
  rcases Int.lt_trichotomy a b with h | h | h
  · rw [Int.compare_eq_lt.2 h, decide_eq_false (by omega)]; rfl
  · rw [Int.compare_eq_eq.2 h, decide_eq_false (by omega)]; rfl
  · rw [Int.compare_eq_gt.2 h, decide_eq_true (by omega)]; rfl
theorem Opd.big {q : Int} (h : Opd q) : q.natAbs ≤ 10737418240 := Nat.le_trans h (by decide)
theorem big_zero : (0 : Int).natAbs ≤ 10737418240 := by decide
theorem Opd.add {a b : Int} {m : Nat} (ha : a.natAbs ≤ m) (hb : Opd b) : (a + b).natAbs ≤ m + 2147483648 := add_le ha hb
theorem curveP_len {p : PSt} {a b c d e f : Int} : (curveP p a b c d e f).out.length = p.out.length + 1 := by simp [curveP]
theorem flexP_all {v : Nat} {l : List Int} {p p' : PSt} {M : Nat} (hp : flexP v p l = some p') (h : p.Bd M) (hq : ∀ q ∈ l, Opd q) : p'.Bd (M + 60 * 2147483648) ∧ p'.out.length ≤ p.out.length + l.length := by
  unfold flexP at hp
  split at hp
  · rename_i a b c d e f g
    split at hp
    · injection hp with hp; subst hp
      have oa := (hq a (by simp)).big; have ob := (hq b (by simp)).big; have oc := (hq c (by simp)).big; have od := (hq d (by simp)).big; have oe := (hq e (by simp)).big; have of_ := (hq f (by simp)).big; have og := (hq g (by simp)).big
      exact ⟨(curveP_bd2 (curveP_bd2 h oa big_zero ob oc od big_zero) oe big_zero of_ (neg_le oc) og big_zero).mono (by omega), by rw [curveP_len, curveP_len]; simp only [List.length_cons]; omega⟩
    · cases hp
  · rename_i a b c d e f g h' i
    split at hp
    · injection hp with hp; subst hp
      have oa := (hq a (by simp)).big; have ob := (hq b (by simp)).big; have oc := (hq c (by simp)).big; have od := (hq d (by simp)).big; have oe := (hq e (by simp)).big; have of_ := (hq f (by simp)).big; have og := (hq g (by simp)).big; have oh := (hq h' (by simp)).big; have oi := (hq i (by simp)).big
      have os : (b + d + h').natAbs ≤ 10737418240 := Nat.le_trans (Opd.add (Opd.add (hq b (by simp)) (hq d (by simp))) (hq h' (by simp))) (by decide)
      exact ⟨(curveP_bd2 (curveP_bd2 h oa ob oc od oe big_zero) of_ big_zero og oh oi (neg_le os)).mono (by omega), by rw [curveP_len, curveP_len]; simp only [List.length_cons]; omega⟩
    · cases hp
  · rename_i a b c d e f g h' i j k
    split at hp
    · injection hp with hp; subst hp
      have oa := (hq a (by simp)).big; have ob := (hq b (by simp)).big; have oc := (hq c (by simp)).big; have od := (hq d (by simp)).big; have oe := (hq e (by simp)).big; have of_ := (hq f (by simp)).big; have og := (hq g (by simp)).big; have oh := (hq h' (by simp)).big; have oi := (hq i (by simp)).big; have oj := (hq j (by simp)).big; have ok := (hq k (by simp)).big
      have ox : (a + c + e + g + i).natAbs ≤ 10737418240 := Nat.le_trans (Opd.add (Opd.add (Opd.add (Opd.add (hq a (by simp)) (hq c (by simp))) (hq e (by simp))) (hq g (by simp))) (hq i (by simp))) (by decide)
      have oy : (b + d + f + h' + j).natAbs ≤ 10737418240 := Nat.le_trans (Opd.add (Opd.add (Opd.add (Opd.add (hq b (by simp)) (hq d (by simp))) (hq f (by simp))) (hq h' (by simp))) (hq j (by simp))) (by decide)
      cases decide (max (b + d + f + h' + j) (-(b + d + f + h' + j)) < max (a + c + e + g + i) (-(a + c + e + g + i)))
      · exact ⟨(curveP_bd2 (curveP_bd2 h oa ob oc od oe of_) og oh oi oj (neg_le ox) ok).mono (by omega), by rw [show (bif false then curveP (curveP p a b c d e f) g h' i j k (-(b + d + f + h' + j)) else curveP (curveP p a b c d e f) g h' i j (-(a + c + e + g + i)) k) = curveP (curveP p a b c d e f) g h' i j (-(a + c + e + g + i)) k from rfl, curveP_len, curveP_len]; simp only [List.length_cons]; omega⟩
      · exact ⟨(curveP_bd2 (curveP_bd2 h oa ob oc od oe of_) og oh oi oj ok (neg_le oy)).mono (by omega), by rw [show (bif true then curveP (curveP p a b c d e f) g h' i j k (-(b + d + f + h' + j)) else curveP (curveP p a b c d e f) g h' i j (-(a + c + e + g + i)) k) = curveP (curveP p a b c d e f) g h' i j k (-(b + d + f + h' + j)) from rfl, curveP_len, curveP_len]; simp only [List.length_cons]; omega⟩
    · cases hp
  · split at hp
    · injection hp with hp; subst hp
      have h1 := curvesP_bd h (opd_take hq 12)
      refine ⟨h1.mono ?_, ?_⟩
      · exact Nat.add_le_add_left (Nat.le_trans (Nat.mul_le_mul_right 2147483648 (List.length_take_le _ _)) (by omega)) _
      · refine Nat.le_trans curvesP_len ?_
        simp only [List.length_take, List.length_cons, List.length_nil]; omega
    · cases hp
  · cases hp
end Go.Proofs.YtbepljmeflndkaaGreatDoor
