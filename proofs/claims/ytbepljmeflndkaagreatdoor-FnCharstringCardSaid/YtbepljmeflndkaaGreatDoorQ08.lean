/- Part 8 of the proof about FnCharstring. -/
import Derived.Recover
import Derived.Test.YtbepljmeflndkaaGreatDoorQ05
import Derived.Test.YtbepljmeflndkaaGreatDoorQ07
namespace Go.Eng
open Go
section
variable {P : Program} {Q : Exit → Act → World → Prop} {n : Nat} {D : List Deferred} {w0 : World} {S : List Nat} {L : Slots} {H H' : Heap} {ops : Array Oper} {rest : List Oper}
theorem enterD {f : Nat} {fn : Func} {c : Code} {args : List Value} {R : Ending → World → Prop} {w : World} (hf : P.funcs[f]? = some fn) (hb : fn.body = some c) (hn : fn.ntmps = n) (ha : Nat.ble args.length n = true) (hw : Hp w S H w)
    (h : Wc P (bodyPostD P fn R) n [] w S c (slotsFrom 0 args) H) : Calls P f args.toArray w R := by
  refine calls_of_wp_defers hf hb (h _ w ?_ hw)
  have hle := Nat.le_of_ble_eq_true ha
  refine ⟨by simp [hn]; omega, rfl, fun t v hv => ?_⟩
  obtain ⟨_, h2⟩ := get_slotsFrom args 0 t v hv
  simp only [Nat.sub_zero] at h2
  have hlt : t < args.length := by
    rcases Nat.lt_or_ge t args.length with h | h
    · exact h
    · rw [List.getElem?_eq_none h] at h2; cases h2
  rw [Array.getElem?_append_left (by simpa using hlt)]
  simpa using h2
theorem y_makeFunc {d : Option Tmp} {ty : TypeId} {pos : String} {af : Array Edge} {gd : Option (Nat × Bool)} {fn : Fn} {cap : Array Operand} {vals : List Value} (hc : evs L cap.toList = some vals) :
    Yields P n D w0 S ⟨d, .makeFunc fn #[] cap, ty, pos, af, gd⟩ L H (.func fn #[] vals.toArray) := by
  intro a w ha hw
  have h1 : cap.map a.eval = vals.toArray := by
    have h2 := ha.evs_eq _ _ hc
    rw [← h2]
    apply Array.toList_inj.1
    simp
  simp [execOp, Instr.makeFunc, h1]
theorem l_defer {x : Operand} {fv : Fn} {cap : Array Value} {ty : TypeId} {pos : String} {af : Array Edge} (hx : ev L x = some (.func fv #[] cap))
    (h : Wl P Q n (⟨.fn fv cap, #[]⟩ :: D) w0 S ops rest L H) : Wl P Q n D w0 S ops (⟨none, .defer { callee := .value x, args := #[], argTypes := #[] }, ty, pos, af, none⟩ :: rest) L H := by
  intro a w ha hw
  refine wpList_plain rfl fun K hK => ?_
  unfold Oper.wp
  have h1 : (execOp a.eval ⟨none, .defer { callee := .value x, args := #[], argTypes := #[] }, ty, pos, af, none⟩).run P w = .ok (.defer ⟨.fn fv cap, #[]⟩) w := by
    simp [execOp, resolve, ha.ev_eq hx, Deferred.ofValue]
  rw [h1, Oper.upon_defer]
  refine hK _ _ (h _ _ ⟨ha.size, by show _ :: a.defers = _; rw [ha.defers], ha.get⟩ hw)
/-- 'x.(T)' with two results, that holds. -/
theorem y_assertOk {d : Option Tmp} {ty : TypeId} {pos : String} {af : Array Edge} {gd : Option (Nat × Bool)} {x : Operand} {t xt : TypeId} {v : Value} (ht : niT P t = true) (hx : ev L x = some (.iface t v)) :
    Yields P n D w0 S ⟨d, .typeAssert x xt t true, ty, pos, af, gd⟩ L H (.tuple #[v, .bool true]) := by
  intro a w ha hw
  unfold niT at ht
  split at ht
  · cases ht
  · rename_i u hne hu
    cases u <;> first | exact absurd rfl (hne _) | simp [execOp, ha.ev_eq hx, Instr.typeAssert, run_underlying hu]
  · cases ht
/-- The way out through the deferred call. -/
theorem leave_ret {fn : Func} {R : Ending → World → Prop} {fv : Fn} {cap dargs : Array Value} {f : FuncId} {args : Array Value} {rs : List ResultVar} {vs : List Value} (hrs : fn.results.toList = rs)
    (hi : ∀ w, (invoke (.fn fv cap) dargs).run P w = .ok (.enter f args) w)
    (hc : ∀ w, Hp w0 S H w → CallsD P f args .returning w fun e u w' => (∃ v, e = .returned v) ∧ settle u = .returning ∧ Hp w0 S H' w')
    (hv : resV P L H' rs vs) (hR : ∀ w, Hp w0 S H' w → R (.returned (rets vs)) w) : ∀ e, e = .normal ∨ e = .ret → Wq (bodyPostD P fn R) n [⟨.fn fv cap, dargs⟩] w0 S e L H := by
  intro e he a w ha hw
  have key : Leaves P fn a.tmps R a.defers .returning w := by
    rw [ha.defers]
    refine leaves_cons (by simp) (hi w) ((hc w hw).mono ?_)
    rintro e u w' ⟨⟨v, rfl⟩, hu, hH⟩
    simp only [hu, Leaves]
    have h1 := run_results (P := P) (D := [⟨.fn fv cap, dargs⟩]) ha hH rs vs hv
    have h2 : (fn.results.mapM (resStep a.tmps)).run P w' = .ok vs.toArray w' := by
      rw [Array.mapM_eq_mapM_toList, hrs]
      simp only [Sem.run_map, h1, Result.andThen_ok]
    refine ⟨rets vs, ?_, hR w' hH⟩
    rw [results_eq]
    simp only [Sem.run_bind, h2, Result.andThen_ok, Sem.run_pure]
    match vs with
    | [] => rfl
    | [v] => rfl
    | _ :: _ :: _ => simp [rets]
  rcases he with rfl | rfl <;> exact key
theorem leave_panic {fn : Func} {R : Ending → World → Prop} {fv : Fn} {cap dargs : Array Value} {f : FuncId} {args : Array Value} {rs : List ResultVar} {vs : List Value} {c : List PanicEntry} (hrs : fn.results.toList = rs)
    (hi : ∀ w, (invoke (.fn fv cap) dargs).run P w = .ok (.enter f args) w)
    (hc : ∀ w, Hp w0 S H w → CallsD P f args (.panicking c) w fun e u w' => (∃ v, e = .returned v) ∧ settle u = .returning ∧ Hp w0 S H' w')
    (hv : resV P L H' rs vs) (hR : ∀ w, Hp w0 S H' w → R (.returned (rets vs)) w) : Wq (bodyPostD P fn R) n [⟨.fn fv cap, dargs⟩] w0 S (.panic c) L H := by
  intro a w ha hw
  show Leaves P fn a.tmps R a.defers (.panicking c) w
  rw [ha.defers]
  refine leaves_cons (by simp) (hi w) ((hc w hw).mono ?_)
  rintro e u w' ⟨⟨v, rfl⟩, hu, hH⟩
  simp only [hu, Leaves]
  have h1 := run_results (P := P) (D := [⟨.fn fv cap, dargs⟩]) ha hH rs vs hv
  have h2 : (fn.results.mapM (resStep a.tmps)).run P w' = .ok vs.toArray w' := by
    rw [Array.mapM_eq_mapM_toList, hrs]
    simp only [Sem.run_map, h1, Result.andThen_ok]
  refine ⟨rets vs, ?_, hR w' hH⟩
  rw [results_eq]
  simp only [Sem.run_bind, h2, Result.andThen_ok, Sem.run_pure]
  match vs with
  | [] => rfl
  | [v] => rfl
  | _ :: _ :: _ => simp [rets]
/-- A call whose panic leaves what is told. -/
theorem l_callPK {PE : List PanicEntry → Prop} {f : Nat} {args : Array Operand} {tys : Array TypeId} {vals : List Value} {ι : Type} {φ : ι → Prop} {vv : ι → Value} {H2 : ι → Heap} {HK : Heap} {dst : Nat} {ty : TypeId} {pos : String} {af : Array Edge}
    (hok : callOk P f = true) (hargs : evs L args.toList = some vals) (hn : Nat.blt dst n = true)
    (hc : ∀ w, Hp w0 S H w → Calls P f vals.toArray w fun e w' => (∃ y, φ y ∧ e = .returned (vv y) ∧ Hp w0 S (H2 y) w') ∨ ∃ c, PE c ∧ e = .panicked c ∧ Hp w0 S HK w')
    (hp : ∀ c, PE c → Wq Q n D w0 S (.panic c) L HK)
    (h : ∀ y, φ y → Wl P Q n D w0 S ops rest ((dst, vv y) :: L) (H2 y)) :
    Wl P Q n D w0 S ops (⟨some dst, .call { callee := .value (.func f), args, argTypes := tys }, ty, pos, af, none⟩ :: rest) L H := by
  intro a w ha hw
  refine wpList_plain rfl fun K hK => ?_
  unfold Oper.wp
  rw [run_call (u := #[]) (v := #[]) hok rfl hargs ha w, Oper.upon_enter]
  refine (by simpa using hc w hw : Calls P f (#[] ++ vals.toArray ++ #[]) w _).mono fun e w' he => ?_
  rcases he with ⟨y, hy, rfl, hH⟩ | ⟨c, hc2, rfl, hH⟩
  · exact hK _ _ (h y hy _ _ (ha.put hn _) hH)
  · exact hp c hc2 a w' ha hH
theorem out_frameK {PE : List PanicEntry → Prop} {f : Nat} {args : Array Value} {ι : Type} {φ : ι → Prop} {vv : ι → Value} {H1 Hr : Heap} {H2 : ι → Heap} {w : World} (hw : Hp w0 S H w) (hp : H.Perm (H1 ++ Hr))
    (hc : Calls P f args w (OutP w (H1.map (·.1)) φ vv H2 PE)) : Calls P f args w fun e w' => (∃ y, φ y ∧ e = .returned (vv y) ∧ Hp w0 S (H2 y ++ Hr) w') ∨ ∃ c, PE c ∧ e = .panicked c ∧ Hp w0 S Hr w' := by
  refine hc.mono fun e w' h => ?_
  rcases h with ⟨x, hx, he, hH⟩ | ⟨c, hc', he, hH⟩
  · exact .inl ⟨x, hx, he, (hw.perm hp).frameLike hH⟩
  · exact .inr ⟨c, hc', he, (hw.perm hp).frameLike (H2 := []) hH⟩
theorem get_mem {L : Slots} {t : Nat} {v : Value} : Eng.get L t = some v → (t, v) ∈ L := by
  induction L with
  | nil => intro h; cases h
  | cons p r ih =>
    obtain ⟨u, x⟩ := p
    intro h
    simp only [Eng.get] at h
    cases hq : Nat.beq t u with
    | true =>
      rw [hq] at h
      have : t = u := Nat.eq_of_beq_eq_true hq
      subst this
      simp at h; subst h
      exact .head _
    | false => rw [hq] at h; exact .tail _ (ih h)
theorem env_of {L : Slots} {a : Act} (hs : a.tmps.size = n) (hd : a.defers = D) (h : ∀ p ∈ L, a.tmps[p.1]? = some p.2) : Env n D L a := ⟨hs, hd, fun _ _ hg => h _ (get_mem hg)⟩
end
end Go.Eng
namespace Go.Proofs.YtbepljmeflndkaaGreatDoor
open Go.Eng Go.Fl
set_option maxRecDepth 100000
attribute [local irreducible] IntKind.wrap Int.tdiv Int.tmod Int.emod maxLen F G
theorem catch_ret (p q : Addr) (w : World) : CallsD Tryz.prog 8 #[.pointer (some p), .pointer (some q)] .returning w fun e u w' => (∃ v, e = .returned v) ∧ settle u = .returning ∧ w' = w := by
  refine callsD_of_wpS Tryz.func8 rfl fun c₀ cs hu => ?_
  apply wpS_seq
  apply wpS_region
  simp [wpOpsS, go_sem, recoverD, hu, Tryz.ntmps8, Exit.thenS]
  apply wpS_seq
  apply wpS_region
  simp [wpOpsS, go_sem, Exit.thenS]
  refine wpS_cond (t := false) (by simp [Act.eval, Array.replicate]) ?_
  simp only [Bool.false_eq_true, if_false]
  refine wpS_of_wp (wp_skip ?_)
  cases c₀
  simp_all [bodyPostS, results, Tryz.results8, settle]
theorem catch_panic {w0 w : World} {S : List Nat} {b6 b7 : Nat} {v6 v7 : Value} (hw : Hp w0 S [(b6, [v6], 25), (b7, [v7], 4)] w) : CallsD Tryz.prog 8 #[.pointer (some ⟨b6, 0, none⟩), .pointer (some ⟨b7, 0, none⟩)] (.panicking [{ v := .iface 38 (.agg #[]), recovered := false }]) w (fun e u w' => (∃ v, e = .returned v) ∧ settle u = .returning ∧ Hp w0 S [(b6, [.slice none 0 0], 25), (b7, [.bool false], 4)] w') := by
  refine callsD_of_wpS Tryz.func8 rfl fun c₀ cs hu => ?_
  apply wpS_seq
  apply wpS_region
  simp [wpOpsS, go_sem, recoverD, hu, Tryz.ntmps8, Exit.thenS]
  apply wpS_seq
  apply wpS_region
  simp [wpOpsS, go_sem, Exit.thenS]
  refine wpS_cond (t := true) (by simp [Act.eval, Array.replicate]) ?_
  simp only [if_true]
  refine wpS_of_wp ?_
  refine (show Wc Tryz.prog _ 16 [] w0 S _ [(2, .iface 38 (.agg #[])), (0, .pointer (some ⟨b6, 0, none⟩)), (1, .pointer (some ⟨b7, 0, none⟩))] [(b6, [v6], 25), (b7, [v7], 4)] from ?_) _ _ (env_of (by simp) rfl (by simp)) hw
  refine c_seq ?_
  refine c_seq ?_
  -- region 2
  refine c_region ?_
  refine l_val (y_move rfl) rfl rfl rfl ?_
  refine l_val (y_assertOk ni_38 rfl) rfl rfl rfl ?_
  refine l_val (y_move rfl) rfl rfl rfl ?_
  refine l_val (y_extract rfl rfl) rfl rfl rfl ?_
  refine l_val (y_extract rfl rfl) rfl rfl rfl ?_
  refine l_gives rfl rfl (g_alloc ze_38) rfl ?_
  intro b3 hb3
  refine l_does rfl rfl (g_storeN (vs := []) (cs' := []) sz_38 rfl rfl rfl rfl rfl rfl rfl .here) ?_
  intro _ _
  refine l_val (y_assign rfl) rfl rfl rfl ?_
  refine l_nil ?_
  refine q_then ?_
  refine c_seq ?_
  -- region 3
  refine c_region ?_
  refine l_val (y_move rfl) rfl rfl rfl ?_
  refine l_val (y_not rfl) rfl rfl rfl ?_
  refine l_nil ?_
  refine q_then ?_
  refine c_false rfl rfl ?_
  refine c_skip ?_
  refine q_then ?_
  -- region 5
  refine c_region ?_
  refine l_does rfl rfl (g_store1 (cs' := [_]) sz_25 rfl rfl rfl rfl rfl rfl (.there .here)) ?_
  intro _ _
  refine l_does rfl rfl (g_store1 (cs' := [_]) sz_4 rfl rfl rfl rfl rfl rfl (.there (.there .here))) ?_
  intro _ _
  refine l_nil ?_
  intro a w ha hw
  exact ⟨ha.defers, _, rfl, .tuple #[], by simp [results, Tryz.results8], ⟨_, rfl⟩, rfl, hw.sub (.cons (.there .here) (.cons (.there .here) .nil))⟩
theorem Inv.zero : Inv ⟨⟨0, 0, 0, 0, false, []⟩, [], 0, false, false, false, 0, 0⟩ := ⟨by decide, by decide, fun q hq => (by cases hq), ⟨by decide, by decide, by decide, by decide⟩, by decide, by decide⟩
theorem subH_left : ∀ {A B : Heap}, SubH A (A ++ B) := fun {A B} => SubH.left SubH.refl
set_option maxHeartbeats 4000000 in
theorem f5_any (w : World) (A Alo Agl : Option Addr) (cl cLo cGl : Nat) (b : List Nat) (los gls : List (List Nat)) (hRB : RdB w [] A b) (hcl : b.length ≤ cl) (hu : ∀ u ∈ b, u < 256) (hLo : RdL w [] Alo los) (hGl : RdL w [] Agl gls) : Calls Tryz.prog 5 [.slice A b.length cl, .slice Alo los.length cLo, .slice Agl gls.length cGl].toArray w (Out w [] (fun z : Bool × List Stk × Sv => (z.1 = true ∧ (los.length ≤ 300 ∧ gls.length ≤ 300) ∧ ∃ c, RunR los gls ⟨⟨0, 0, 0, 0, false, []⟩, [], 0, false, false, false, 0, 0⟩ b c ∧ c.p.out = z.2.1 ∧ Inv c ∧ slOk z.2.2 z.2.1.length 7 (encS z.2.1)) ∨ (z.1 = false ∧ z.2 = ([], none))) (fun z => .tuple #[slV z.2.2 z.2.1.length, .bool z.1]) (fun z => slH z.2.2 (encS z.2.1) 34)) := by
  refine enterD (n := 30) Tryz.func5 rfl rfl rfl (Hp.refl w) ?_
  refine c_seq ?_
  -- region 0
  refine c_region ?_
  refine l_gives rfl rfl (g_alloc ze_25) rfl ?_
  intro b6 hb6
  refine l_gives rfl rfl (g_alloc ze_4) rfl ?_
  intro b7 hb7
  refine l_nil ?_
  refine q_then ?_
  refine c_seq ?_
  -- region 1
  refine c_region ?_
  refine l_val (y_makeFunc rfl) rfl rfl rfl ?_
  refine l_defer rfl ?_
  refine l_nil ?_
  refine q_then ?_
  refine c_seq ?_
  refine c_seq ?_
  -- region 2
  refine c_region ?_
  refine l_val (y_move rfl) rfl rfl rfl ?_
  refine l_val (y_len sl_23 rfl) rfl rfl rfl ?_
  refine l_val (y_bin rfl rfl rfl rfl) rfl rfl rfl ?_
  refine l_val (y_move rfl) rfl rfl rfl ?_
  refine l_split (t := 13) rfl rfl (fun hs13 => ?_) (fun hs13 => ?_)
  · skip
    refine l_not rfl rfl rfl rfl ?_
    refine l_not rfl rfl rfl rfl ?_
    refine l_not rfl rfl rfl rfl ?_
    refine l_val (y_pick rfl rfl rfl) rfl rfl rfl ?_
    refine l_nil ?_
    refine q_then ?_
    refine c_true rfl rfl ?_
    refine c_seq ?_
    -- region 3
    refine c_region ?_
    refine l_does rfl rfl (g_store1 (cs' := [_]) sz_25 rfl rfl (by first | rfl | exact slV_cells _ _) rfl (by first | rfl | exact slV_one _ _) rfl (.there .here)) ?_
    intro _ _
    refine l_does rfl rfl (g_store1 (cs' := [_]) sz_4 rfl rfl (by first | rfl | exact slV_cells _ _) rfl (by first | rfl | exact slV_one _ _) rfl .here) ?_
    intro _ _
    refine l_nil ?_
    refine q_then ?_
    refine c_ret ?_
    refine q_then_ret ?_
    exact leave_ret (f := 8) (args := #[.pointer (some ⟨b6, 0, none⟩), .pointer (some ⟨b7, 0, none⟩)]) rfl (fun w => by simp [go_sem]) (fun w1 hw1 => (catch_ret _ _ w1).mono (fun e u w2 h => ⟨h.1, h.2.1, h.2.2 ▸ hw1⟩)) (rs := [.cell 6 25, .cell 7 4]) (vs := [.slice none 0 0, .bool false]) ⟨⟨_, _, _, _, rfl, (.tail _ (.head _)), .inl ⟨ld_25, rfl⟩⟩, ⟨_, _, _, _, rfl, (.head _), .inl ⟨ld_4, rfl⟩⟩, trivial⟩ (fun w1 hw1 => ⟨(false, [], none), .inr ⟨rfl, rfl⟩, rfl, hw1.sub (trivial)⟩) _ (.inr rfl)
  · skip
    refine l_want rfl rfl ?_
    refine l_val (y_move rfl) rfl rfl rfl ?_
    refine l_want rfl rfl ?_
    refine l_val (y_len sl_23 rfl) rfl rfl rfl ?_
    refine l_want rfl rfl ?_
    refine l_val (y_bin rfl rfl rfl rfl) rfl rfl rfl ?_
    refine l_val (y_pick rfl rfl rfl) rfl rfl rfl ?_
    refine l_nil ?_
    refine q_then ?_
    refine c_cond rfl (fun hc17 => ?_) (fun hc17 => ?_)
    · skip
      refine c_seq ?_
      -- region 3
      refine c_region ?_
      refine l_does rfl rfl (g_store1 (cs' := [_]) sz_25 rfl rfl (by first | rfl | exact slV_cells _ _) rfl (by first | rfl | exact slV_one _ _) rfl (.there .here)) ?_
      intro _ _
      refine l_does rfl rfl (g_store1 (cs' := [_]) sz_4 rfl rfl (by first | rfl | exact slV_cells _ _) rfl (by first | rfl | exact slV_one _ _) rfl .here) ?_
      intro _ _
      refine l_nil ?_
      refine q_then ?_
      refine c_ret ?_
      refine q_then_ret ?_
      exact leave_ret (f := 8) (args := #[.pointer (some ⟨b6, 0, none⟩), .pointer (some ⟨b7, 0, none⟩)]) rfl (fun w => by simp [go_sem]) (fun w1 hw1 => (catch_ret _ _ w1).mono (fun e u w2 h => ⟨h.1, h.2.1, h.2.2 ▸ hw1⟩)) (rs := [.cell 6 25, .cell 7 4]) (vs := [.slice none 0 0, .bool false]) ⟨⟨_, _, _, _, rfl, (.tail _ (.head _)), .inl ⟨ld_25, rfl⟩⟩, ⟨_, _, _, _, rfl, (.head _), .inl ⟨ld_4, rfl⟩⟩, trivial⟩ (fun w1 hw1 => ⟨(false, [], none), .inr ⟨rfl, rfl⟩, rfl, hw1.sub (trivial)⟩) _ (.inr rfl)
    · skip
      have hl1 : los.length ≤ 300 := by simp only [decide_eq_false_iff_not] at hs13; omega
      have hl2 : gls.length ≤ 300 := by simp only [decide_eq_false_iff_not] at hc17; omega
      refine c_skip ?_
      refine q_then ?_
      refine c_seq ?_
      -- region 4
      refine c_region ?_
      refine l_val (y_move rfl) rfl rfl rfl ?_
      refine l_val (y_move rfl) rfl rfl rfl ?_
      refine l_val (y_build1 (out := [_, _, _, _, _, _, _, _, _, _, _, _, _, _, _]) bp_46 rfl rfl rfl) rfl rfl rfl ?_
      refine l_gives rfl rfl (g_box (vs := [_, _, _, _, _, _, _, _, _, _, _, _, _, _, _]) rfl rfl) rfl ?_
      intro b21 hb21
      refine l_val (y_assign rfl) rfl rfl rfl ?_
      refine l_nil ?_
      refine q_then ?_
      refine c_seq ?_
      -- region 5
      refine c_region ?_
      refine l_val (y_move rfl) rfl rfl rfl ?_
      refine l_val (y_move rfl) rfl rfl rfl ?_
      refine l_perm (H' := (b21, [.slice none 0 0, .float .f64 (F 0), .float .f64 (F 0), .bool false, .float .f64 (F 0), .float .f64 (F 0), .slice none 0 0, .slice Alo los.length cLo, .slice Agl gls.length cGl, .int .i64 (0 : Nat), .bool false, .bool false, .bool false, .int .i64 (0 : Nat), .int .i64 (0 : Nat)], 46) :: [(b7, [.bool false], 4), (b6, [.slice none 0 0], 25)]) (by rw [F_zero]; exact .refl _) ?_
      refine l_callPK (PE := PO) (HK := [(b7, [.bool false], 4), (b6, [.slice none 0 0], 25)]) ok_9 rfl rfl (fun w1 hw1 => out_frameK (H1 := (b21, slV none (⟨0, 0, 0, 0, false, []⟩ : PSt).out.length :: .float .f64 (F (⟨0, 0, 0, 0, false, []⟩ : PSt).x) :: .float .f64 (F (⟨0, 0, 0, 0, false, []⟩ : PSt).y) :: .bool (⟨0, 0, 0, 0, false, []⟩ : PSt).o :: .float .f64 (F (⟨0, 0, 0, 0, false, []⟩ : PSt).fx) :: .float .f64 (F (⟨0, 0, 0, 0, false, []⟩ : PSt).fy) :: fvV none ([] : List Int).length :: [.slice Alo los.length cLo, .slice Agl gls.length cGl, .int .i64 (0 : Nat), .bool false, .bool false, .bool false, .int .i64 (0 : Nat), .int .i64 (0 : Nat)], 46) :: (slH none (encS (⟨0, 0, 0, 0, false, []⟩ : PSt).out) 34 ++ fvH none (([] : List Int).map flv) 41)) (Hr := [(b7, [.bool false], 4), (b6, [.slice none 0 0], 25)]) hw1 (.refl _) (run0 w1 b21 ⟨0, 0, 0, 0, false, []⟩ none none [] Alo Agl cLo cGl los gls 0 false false false 0 A cl b Inv.zero ⟨rfl, rfl⟩ rfl (hLo.into (hw1.appendL (H' := (b21, slV none (⟨0, 0, 0, 0, false, []⟩ : PSt).out.length :: .float .f64 (F (⟨0, 0, 0, 0, false, []⟩ : PSt).x) :: .float .f64 (F (⟨0, 0, 0, 0, false, []⟩ : PSt).y) :: .bool (⟨0, 0, 0, 0, false, []⟩ : PSt).o :: .float .f64 (F (⟨0, 0, 0, 0, false, []⟩ : PSt).fx) :: .float .f64 (F (⟨0, 0, 0, 0, false, []⟩ : PSt).fy) :: fvV none ([] : List Int).length :: [.slice Alo los.length cLo, .slice Agl gls.length cGl, .int .i64 (0 : Nat), .bool false, .bool false, .bool false, .int .i64 (0 : Nat), .int .i64 (0 : Nat)], 46) :: (slH none (encS (⟨0, 0, 0, 0, false, []⟩ : PSt).out) 34 ++ fvH none (([] : List Int).map flv) 41)))) (hGl.into (hw1.appendL (H' := (b21, slV none (⟨0, 0, 0, 0, false, []⟩ : PSt).out.length :: .float .f64 (F (⟨0, 0, 0, 0, false, []⟩ : PSt).x) :: .float .f64 (F (⟨0, 0, 0, 0, false, []⟩ : PSt).y) :: .bool (⟨0, 0, 0, 0, false, []⟩ : PSt).o :: .float .f64 (F (⟨0, 0, 0, 0, false, []⟩ : PSt).fx) :: .float .f64 (F (⟨0, 0, 0, 0, false, []⟩ : PSt).fy) :: fvV none ([] : List Int).length :: [.slice Alo los.length cLo, .slice Agl gls.length cGl, .int .i64 (0 : Nat), .bool false, .bool false, .bool false, .int .i64 (0 : Nat), .int .i64 (0 : Nat)], 46) :: (slH none (encS (⟨0, 0, 0, 0, false, []⟩ : PSt).out) 34 ++ fvH none (([] : List Int).map flv) 41)))) hl1 hl2 (hRB.into (hw1.appendL (H' := (b21, slV none (⟨0, 0, 0, 0, false, []⟩ : PSt).out.length :: .float .f64 (F (⟨0, 0, 0, 0, false, []⟩ : PSt).x) :: .float .f64 (F (⟨0, 0, 0, 0, false, []⟩ : PSt).y) :: .bool (⟨0, 0, 0, 0, false, []⟩ : PSt).o :: .float .f64 (F (⟨0, 0, 0, 0, false, []⟩ : PSt).fx) :: .float .f64 (F (⟨0, 0, 0, 0, false, []⟩ : PSt).fy) :: fvV none ([] : List Int).length :: [.slice Alo los.length cLo, .slice Agl gls.length cGl, .int .i64 (0 : Nat), .bool false, .bool false, .bool false, .int .i64 (0 : Nat), .int .i64 (0 : Nat)], 46) :: (slH none (encS (⟨0, 0, 0, 0, false, []⟩ : PSt).out) 34 ++ fvH none (([] : List Int).map flv) 41)))) hcl hu (hw1.self (H1 := (b21, slV none (⟨0, 0, 0, 0, false, []⟩ : PSt).out.length :: .float .f64 (F (⟨0, 0, 0, 0, false, []⟩ : PSt).x) :: .float .f64 (F (⟨0, 0, 0, 0, false, []⟩ : PSt).y) :: .bool (⟨0, 0, 0, 0, false, []⟩ : PSt).o :: .float .f64 (F (⟨0, 0, 0, 0, false, []⟩ : PSt).fx) :: .float .f64 (F (⟨0, 0, 0, 0, false, []⟩ : PSt).fy) :: fvV none ([] : List Int).length :: [.slice Alo los.length cLo, .slice Agl gls.length cGl, .int .i64 (0 : Nat), .bool false, .bool false, .bool false, .int .i64 (0 : Nat), .int .i64 (0 : Nat)], 46) :: (slH none (encS (⟨0, 0, 0, 0, false, []⟩ : PSt).out) 34 ++ fvH none (([] : List Int).map flv) 41))))) (fun c hc => ?_) ?_
      · obtain rfl := hc
        exact leave_panic (f := 8) (args := #[.pointer (some ⟨b6, 0, none⟩), .pointer (some ⟨b7, 0, none⟩)]) rfl (fun w => by simp [go_sem]) (fun w1 hw1 => catch_panic (hw1.perm (.swap ..))) (rs := [.cell 6 25, .cell 7 4]) (vs := [.slice none 0 0, .bool false]) ⟨⟨_, _, _, _, rfl, .head _, .inl ⟨ld_25, rfl⟩⟩, ⟨_, _, _, _, rfl, .tail _ (.head _), .inl ⟨ld_4, rfl⟩⟩, trivial⟩ (fun w1 hw1 => ⟨(false, [], none), .inr ⟨rfl, rfl⟩, rfl, hw1.sub trivial⟩)
      intro ⟨⟨p, st, stems, masked, begun, ended, deep, ops⟩, so, sf⟩ ⟨hR, hI, hd, _, hok, hfv⟩
      simp only at hR hI hd hok hfv ⊢
      refine l_perm (List.perm_append_comm (l₂ := [_, _])) ?_
      refine l_nil ?_
      refine q_then ?_
      refine c_seq ?_
      -- region 6
      refine c_region ?_
      refine l_val (y_move rfl) rfl rfl rfl ?_
      refine l_val (y_nilCheck rfl) rfl rfl rfl ?_
      refine l_val (y_fieldAddr fo_46_0 rfl) rfl rfl rfl ?_
      refine l_val (y_fieldAddr fo_43_0 rfl) rfl rfl rfl ?_
      refine l_val (y_load1 ld_25 rfl m2 rfl) rfl rfl rfl ?_
      refine l_does rfl rfl (g_store1 (cs' := [_]) sz_25 rfl rfl (by first | rfl | exact slV_cells _ _) rfl (by first | rfl | exact slV_one _ _) rfl (.there .here)) ?_
      intro _ _
      refine l_does rfl rfl (g_store1 (cs' := [_]) sz_4 rfl rfl (by first | rfl | exact slV_cells _ _) rfl (by first | rfl | exact slV_one _ _) rfl .here) ?_
      intro _ _
      refine l_nil ?_
      refine q_then ?_
      refine c_ret ?_
      exact leave_ret (f := 8) (args := #[.pointer (some ⟨b6, 0, none⟩), .pointer (some ⟨b7, 0, none⟩)]) rfl (fun w => by simp [go_sem]) (fun w1 hw1 => (catch_ret _ _ w1).mono (fun e u w2 h => ⟨h.1, h.2.1, h.2.2 ▸ hw1⟩)) (rs := [.cell 6 25, .cell 7 4]) (vs := [slV so p.out.length, .bool true]) ⟨⟨_, _, _, _, rfl, (.tail _ (.head _)), .inl ⟨ld_25, rfl⟩⟩, ⟨_, _, _, _, rfl, (.head _), .inl ⟨ld_4, rfl⟩⟩, trivial⟩ (fun w1 hw1 => ⟨(true, p.out, so), .inl ⟨rfl, ⟨hl1, hl2⟩, _, hR, rfl, hI, hok⟩, rfl, hw1.sub (.skip (.skip (.skip (subH_left))))⟩) _ (.inr rfl)
end Go.Proofs.YtbepljmeflndkaaGreatDoor
namespace Go.Proofs.YtbepljmeflndkaaGreatDoor
open Go.Eng Go.Fl
theorem soh50 : Tryz.prog.stoodInHeld 50 = false := by kernel_rfl
theorem soh34 : Tryz.prog.stoodInHeld 34 = false := by kernel_rfl
theorem un50 : Tryz.prog.underlying 50 = some (.struct #[{ name := "X", type := 41, offset := 0, embedded := false, tag := "", pkgPath := "", byteOffset := 0 }, { name := "Y", type := 41, offset := 1, embedded := false, tag := "", pkgPath := "", byteOffset := 8 }]) := by kernel_rfl
theorem un41 : Tryz.prog.underlying 41 = some (.float .f64) := by kernel_rfl
theorem un28 : Tryz.prog.underlying 28 = some (.float .f32) := by kernel_rfl
theorem un3 : Tryz.prog.underlying 3 = some (.int .i64) := by kernel_rfl
theorem un32 : Tryz.prog.underlying 32 = some (.array 3 28) := by kernel_rfl
theorem un29 : Tryz.prog.underlying 29 = some (.array 4 28) := by kernel_rfl
theorem in28 : (Tryz.prog.info? 28).map (·.size) = some 1 := by kernel_rfl
theorem in32 : (Tryz.prog.info? 32).map (·.size) = some 3 := by kernel_rfl
theorem run_size {t s : Nat} (h : (Tryz.prog.info? t).map (·.size) = some s) (w : World) : (sizeOf t).run Tryz.prog w = .ok s w := by
  cases hi : Tryz.prog.info? t with
  | none => rw [hi] at h; cases h
  | some i => rw [hi] at h; simp at h; simp [sizeOf, typeInfo, hi, h]
theorem part1 {t : Nat} {u : TypeDesc} (h : Tryz.prog.underlying t = some u) (hu : (match u with | .struct _ => true | .array _ _ => true | _ => false) = false) (cs : Array Value) (off : Nat) (v : Value) (hv : cs[off]? = some v) (w : World) : (part t cs off).run Tryz.prog w = .ok v w := by
  cases u <;> simp at hu <;> simp [part, isAgg, run_underlying h, hv]
theorem partN {t n s : Nat} {e : TypeId} (h : Tryz.prog.underlying t = some (.array n e)) (hs : (Tryz.prog.info? t).map (·.size) = some s) (cs : Array Value) (off : Nat) (w : World) : (part t cs off).run Tryz.prog w = .ok (.agg (cs.extract off (off + s))) w := by
  simp [part, isAgg, run_underlying h, run_size hs]
theorem eqFl {t : Nat} {k : FloatKind} (h : Tryz.prog.underlying t = some (.float k)) (d a b : Nat) (w : World) : (Op.equalIn (d + 1) t (.float k a) (.float k b)).run Tryz.prog w = .ok (Op.floatEq k a b) w := by
  simp [Op.equalIn, run_underlying h]
theorem eqIn {t : Nat} {k : IntKind} (h : Tryz.prog.underlying t = some (.int k)) (d : Nat) (a b : Int) (w : World) : (Op.equalIn (d + 1) t (.int k a) (.int k b)).run Tryz.prog w = .ok (a == b) w := by
  simp [Op.equalIn, run_underlying h]
theorem eq50 (d : Nat) (a b c e : Nat) (w : World) : (Op.equalIn (d + 2) 50 (.agg #[.float .f64 a, .float .f64 b]) (.agg #[.float .f64 c, .float .f64 e])).run Tryz.prog w = .ok (Op.floatEq .f64 a c && Op.floatEq .f64 b e) w := by
  unfold Op.equalIn
  simp [run_underlying un50, soh50, part1 un41 rfl, eqFl un41]
  cases Op.floatEq .f64 a c <;> cases Op.floatEq .f64 b e <;> simp
theorem eqArr (d : Nat) (n : Nat) (t : TypeId) (h : Tryz.prog.underlying t = some (.array n 28)) (hn : n = 3 ∨ n = 4) (xs ys : List Nat) (hx : xs.length = n) (hy : ys.length = n) (w : World) :
    (Op.equalIn (d + 2) t (.agg (xs.map (Value.float .f32)).toArray) (.agg (ys.map (Value.float .f32)).toArray)).run Tryz.prog w = .ok ((List.zipWith (Op.floatEq .f32) xs ys).all id) w := by
  rcases hn with rfl | rfl
  · match xs, ys, hx, hy with
    | [a, b, c], [a', b', c'], _, _ =>
      unfold Op.equalIn
      simp [run_underlying h, run_size in28, part1 un28 rfl, eqFl un28, show List.range' 0 3 = [0, 1, 2] from rfl]
      cases Op.floatEq .f32 a a' <;> cases Op.floatEq .f32 b b' <;> cases Op.floatEq .f32 c c' <;> simp
  · match xs, ys, hx, hy with
    | [a, b, c, d'], [a', b', c', d''], _, _ =>
      unfold Op.equalIn
      simp [run_underlying h, run_size in28, part1 un28 rfl, eqFl un28, show List.range' 0 4 = [0, 1, 2, 3] from rfl]
      cases Op.floatEq .f32 a a' <;> cases Op.floatEq .f32 b b' <;> cases Op.floatEq .f32 c c' <;> cases Op.floatEq .f32 d' d'' <;> simp
theorem un34 : Tryz.prog.underlying 34 = some (.struct #[{ name := "Op", type := 3, offset := 0, embedded := false, tag := "", pkgPath := "", byteOffset := 0 }, { name := "X", type := 32, offset := 1, embedded := false, tag := "", pkgPath := "", byteOffset := 8 }, { name := "Y", type := 32, offset := 4, embedded := false, tag := "", pkgPath := "", byteOffset := 20 }]) := by kernel_rfl
/-- Two pieces are the same. -/
def sameS (s t : Stk) : Bool := s.op == t.op && ((List.zipWith (Op.floatEq .f32) [s.a0, s.a1, s.a2] [t.a0, t.a1, t.a2]).all id && (List.zipWith (Op.floatEq .f32) [s.b0, s.b1, s.b2] [t.b0, t.b1, t.b2]).all id)
theorem eq34 (d : Nat) (s t : Stk) (w : World) : (Op.equalIn (d + 3) 34 (.agg s.cells.toArray) (.agg t.cells.toArray)).run Tryz.prog w = .ok (sameS s t) w := by
  have h1 := eqArr d 3 32 un32 (.inl rfl) [s.a0, s.a1, s.a2] [t.a0, t.a1, t.a2] rfl rfl
  have h2 := eqArr d 3 32 un32 (.inl rfl) [s.b0, s.b1, s.b2] [t.b0, t.b1, t.b2] rfl rfl
  simp only [List.map_cons, List.map_nil] at h1 h2
  unfold sameS
  generalize (List.zipWith (Op.floatEq .f32) [s.a0, s.a1, s.a2] [t.a0, t.a1, t.a2]).all id = A at h1 ⊢
  generalize (List.zipWith (Op.floatEq .f32) [s.b0, s.b1, s.b2] [t.b0, t.b1, t.b2]).all id = B at h2 ⊢
  unfold Op.equalIn
  simp [run_underlying un34, soh34, part1 un3 rfl, partN un32 in32, eqIn un3, Stk.cells, h1, h2]
  by_cases h : s.op = t.op <;> cases A <;> cases B <;> simp [h]
section
variable {n : Nat} {D : List Deferred} {w0 : World} {S : List Nat} {L : Slots} {H : Heap} {d : Option Tmp} {ty : TypeId} {pos : String} {af : Array Edge} {gd : Option (Nat × Bool)}
theorem y_neqA {t u : TypeId} {x y : Operand} {vx vy : Array Value} {b : Bool} (hg : Tryz.prog.eqGuardType Tryz.prog.depth t = false) (heq : ∀ w, (Op.equal t (.agg vx) (.agg vy)).run Tryz.prog w = .ok b w) (hx : ev L x = some (.agg vx)) (hy : ev L y = some (.agg vy)) :
    Go.Eng.Yields Tryz.prog n D w0 S ⟨d, .binOp .neq t x y u, ty, pos, af, gd⟩ L H (.bool (!b)) := by
  intro a w ha hw
  have h3 : (binOp .neq t (.agg vx) (.agg vy)).run Tryz.prog w = .ok (.bool (!b)) w := by
    show (do pure (Value.bool (!(← Op.equal t (.agg vx) (.agg vy)))) : Sem Value).run Tryz.prog w = _
    simp only [Sem.run_bind, heq, Result.andThen_ok, Sem.run_pure]
  have h4 : (eqGuard .neq t x y (.agg vx) (.agg vy)).run Tryz.prog w = .ok () w := by simp [eqGuard, hg]
  simp only [execOp, ha.ev_eq hx, ha.ev_eq hy]
  simp only [Sem.run_bind, h4, h3, Result.andThen_ok, Sem.run_pure]
theorem y_eqlA {t u : TypeId} {x y : Operand} {vx vy : Array Value} {b : Bool} (hg : Tryz.prog.eqGuardType Tryz.prog.depth t = false) (heq : ∀ w, (Op.equal t (.agg vx) (.agg vy)).run Tryz.prog w = .ok b w) (hx : ev L x = some (.agg vx)) (hy : ev L y = some (.agg vy)) :
    Go.Eng.Yields Tryz.prog n D w0 S ⟨d, .binOp .eql t x y u, ty, pos, af, gd⟩ L H (.bool b) := by
  intro a w ha hw
  have h3 : (binOp .eql t (.agg vx) (.agg vy)).run Tryz.prog w = .ok (.bool b) w := by
    show (do pure (Value.bool (← Op.equal t (.agg vx) (.agg vy))) : Sem Value).run Tryz.prog w = _
    simp only [Sem.run_bind, heq, Result.andThen_ok, Sem.run_pure]
  have h4 : (eqGuard .eql t x y (.agg vx) (.agg vy)).run Tryz.prog w = .ok () w := by simp [eqGuard, hg]
  simp only [execOp, ha.ev_eq hx, ha.ev_eq hy]
  simp only [Sem.run_bind, h4, h3, Result.andThen_ok, Sem.run_pure]
end
theorem eg50 : Tryz.prog.eqGuardType Tryz.prog.depth 50 = false := by kernel_rfl
theorem eg34 : Tryz.prog.eqGuardType Tryz.prog.depth 34 = false := by kernel_rfl
theorem eg29 : Tryz.prog.eqGuardType Tryz.prog.depth 29 = false := by kernel_rfl
theorem floatEq_F {a b : Int} (ha : a.natAbs < 2 ^ 53) (hb : b.natAbs < 2 ^ 53) : Op.floatEq .f64 (F a) (F b) = decide (a = b) := by
  unfold Op.floatEq
  rw [show FloatKind.f64.format.order (F a) (F b) = some (compare a b) from order_RF (RF_F ha) (RF_F hb)]
  rcases Int.lt_trichotomy a b with h | h | h
  · rw [Int.compare_eq_lt.2 h, decide_eq_false (by omega)]; rfl
  · rw [Int.compare_eq_eq.2 h, decide_eq_true h]; rfl
  · rw [Int.compare_eq_gt.2 h, decide_eq_false (by omega)]; rfl
theorem eqP50 {a b c e : Int} (ha : a.natAbs < 2 ^ 53) (hb : b.natAbs < 2 ^ 53) (hc : c.natAbs < 2 ^ 53) (he : e.natAbs < 2 ^ 53) (w : World) : (Op.equal 50 (.agg #[.float .f64 (F a), .float .f64 (F b)]) (.agg #[.float .f64 (F c), .float .f64 (F e)])).run Tryz.prog w = .ok (decide (a = c) && decide (b = e)) w := by
  rw [← floatEq_F ha hc, ← floatEq_F hb he]
  exact eq50 9998 _ _ _ _ w
end Go.Proofs.YtbepljmeflndkaaGreatDoor
