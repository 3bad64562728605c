/- OutSame. -/
import Derived.Test.YtbepljmeflndkaaF
import Derived.Test.YtbepljmeflndkaaD
namespace Go.Proofs.Ytbepljmeflndkaa
open Go.Eng
set_option maxRecDepth 100000
attribute [local irreducible] IntKind.wrap Int.tdiv Int.tmod Int.emod sm encO encG maxLen

theorem run_eqSame {P : Program} (d : Nat) (xs : Array Value) (w : World) : ∀ fs : List Field, (∀ f ∈ fs, P.underlying f.type = some (.int .i64) ∧ ∃ n, xs[f.offset]? = some (.int .i64 n)) → (Op.eqFields (d + 1) xs xs fs).run P w = .ok true w := by
  intro fs
  induction fs with
  | nil => intro _; rfl
  | cons f fs ih =>
    intro h
    obtain ⟨hu, n, hn⟩ := h f (by simp)
    have hr := ih (fun f hf => h f (by simp [hf]))
    have hp : (part f.type xs f.offset).run P w = .ok (.int .i64 n) w := by
      simp [part, isAgg, run_underlying hu, hn]
    simp only [Op.eqFields]
    split
    · simp [hp, run_equalIn_int w d f.type .i64 .i64 n n hu, hr]
    · exact hr
theorem run_neq38 (g : OG) (w : World) (x y : Operand) : (do eqGuard .neq 38 x y (.agg (OG.cells g).toArray) (.agg (OG.cells g).toArray); binOp .neq 38 (.agg (OG.cells g).toArray) (.agg (OG.cells g).toArray) : Sem Value).run Try.prog w = .ok (.bool false) w := by
  have hm : Try.prog.eqGuardType Try.prog.depth 38 = false := by kernel_rfl
  have ht : Try.prog.underlying 38 = some (.struct (Try.prog.fieldsOf 38)) := by kernel_rfl
  have hp : Try.prog.stoodInHeld 38 = false := by kernel_rfl
  have hu : Try.prog.underlying 3 = some (.int .i64) := by kernel_rfl
  have hf : (Try.prog.fieldsOf 38).toList.map (fun f => (f.type, f.offset)) = [(3, 0), (3, 1), (3, 2), (3, 3), (3, 4), (3, 5), (3, 6), (3, 7), (3, 8), (3, 9)] := by kernel_rfl
  have hall : ∀ f ∈ (Try.prog.fieldsOf 38).toList, Try.prog.underlying f.type = some (.int .i64) ∧ ∃ n, (OG.cells g).toArray[f.offset]? = some (.int .i64 n) := by
    intro f hfm
    have : (f.type, f.offset) ∈ (Try.prog.fieldsOf 38).toList.map (fun f => (f.type, f.offset)) := List.mem_map.2 ⟨f, hfm, rfl⟩
    rw [hf] at this
    simp only [List.mem_cons, Prod.mk.injEq, List.not_mem_nil, or_false] at this
    rcases this with ⟨h1, h2⟩ | ⟨h1, h2⟩ | ⟨h1, h2⟩ | ⟨h1, h2⟩ | ⟨h1, h2⟩ | ⟨h1, h2⟩ | ⟨h1, h2⟩ | ⟨h1, h2⟩ | ⟨h1, h2⟩ | ⟨h1, h2⟩ <;> rw [h1, h2] <;> exact ⟨hu, _, rfl⟩
  simp only [Sem.run_bind, run_eqGuard_agg w .neq 38 x y _ _ hm, Result.andThen_ok, run_neq_struct, run_equalIn_struct w 9999 38 _ _ ht hp, run_eqSame 9998 _ w _ hall]
  rfl
theorem y_neq38 {n : Nat} {D : List Deferred} {w0 : World} {S : List Nat} {L : Slots} {H : Heap} {d : Option Tmp} {ty t2 : TypeId} {pos : String} {af : Array Edge} {gd : Option (Nat × Bool)} {x y : Operand} {g : OG}
    (hx : ev L x = some (.agg (OG.cells g).toArray)) (hy : ev L y = some (.agg (OG.cells g).toArray)) : Eng.Yields Try.prog n D w0 S ⟨d, .binOp .neq 38 x y t2, ty, pos, af, gd⟩ L H (.bool false) := by
  intro a w ha hw
  have := run_neq38 g w x y
  simp only [execOp, ha.ev_eq hx, ha.ev_eq hy]
  simp only [Sem.run_bind, Sem.run_pure] at this ⊢
  rw [this]
  rfl
set_option maxHeartbeats 2000000 in
theorem f6_any (w : World) (A1 A2 : Option Addr) (c1 c2 : Nat) (gs : List OG) (dir ad up dn gp : Int) (g1 g2 : Value) (h1 : g1 = .slice A1 gs.length c1) (h2 : g2 = .slice A2 gs.length c2) (hR1 : RdO w A1 gs) (hR2 : RdO w A2 gs) (hlen : gs.length ≤ 1000) :
    Calls Try.prog 6 [Value.agg (uC dir ad up dn gp g1).toArray, .agg (uC dir ad up dn gp g2).toArray].toArray w (Out w [] (fun _ : Unit => True) (fun _ => .bool true) (fun _ => [])) := by
  subst h1 h2
  refine enter (n := 65) Try.func6 rfl rfl rfl (Hp.refl w) ?_
  refine c_seq ?_
  -- region 0
  refine c_region ?_
  refine l_gives rfl rfl (g_box (vs := [_, _, _, _, _, _]) rfl rfl) rfl ?_
  intro b2 hb2
  refine l_gives rfl rfl (g_box (vs := [_, _, _, _, _, _]) rfl rfl) rfl ?_
  intro b3 hb3
  refine l_val (y_assign rfl) rfl rfl rfl ?_
  refine l_nil ?_
  refine q_then ?_
  refine c_seq ?_
  refine c_seq ?_
  -- region 1
  refine c_region ?_
  refine l_val (y_fieldAddr fo_24_0 rfl) rfl rfl rfl ?_
  refine l_val (y_load1 ld_3 rfl m1 rfl) rfl rfl rfl ?_
  refine l_val (y_fieldAddr fo_24_0 rfl) rfl rfl rfl ?_
  refine l_val (y_load1 ld_3 rfl m0 rfl) rfl rfl rfl ?_
  refine l_val (y_bin rfl rfl rfl (boolNe rfl)) rfl rfl rfl ?_
  refine l_val (y_move rfl) rfl rfl rfl ?_
  refine l_want rfl rfl ?_
  refine l_val (y_fieldAddr fo_24_1 rfl) rfl rfl rfl ?_
  refine l_want rfl rfl ?_
  refine l_val (y_load1 ld_3 rfl m1 rfl) rfl rfl rfl ?_
  refine l_want rfl rfl ?_
  refine l_val (y_fieldAddr fo_24_1 rfl) rfl rfl rfl ?_
  refine l_want rfl rfl ?_
  refine l_val (y_load1 ld_3 rfl m0 rfl) rfl rfl rfl ?_
  refine l_want rfl rfl ?_
  refine l_val (y_bin rfl rfl rfl (boolNe rfl)) rfl rfl rfl ?_
  refine l_val (y_pick rfl rfl rfl) rfl rfl rfl ?_
  refine l_val (y_move rfl) rfl rfl rfl ?_
  refine l_want rfl rfl ?_
  refine l_val (y_fieldAddr fo_24_2 rfl) rfl rfl rfl ?_
  refine l_want rfl rfl ?_
  refine l_val (y_load1 ld_3 rfl m1 rfl) rfl rfl rfl ?_
  refine l_want rfl rfl ?_
  refine l_val (y_fieldAddr fo_24_2 rfl) rfl rfl rfl ?_
  refine l_want rfl rfl ?_
  refine l_val (y_load1 ld_3 rfl m0 rfl) rfl rfl rfl ?_
  refine l_want rfl rfl ?_
  refine l_val (y_bin rfl rfl rfl (boolNe rfl)) rfl rfl rfl ?_
  refine l_val (y_pick rfl rfl rfl) rfl rfl rfl ?_
  refine l_val (y_move rfl) rfl rfl rfl ?_
  refine l_want rfl rfl ?_
  refine l_val (y_fieldAddr fo_24_3 rfl) rfl rfl rfl ?_
  refine l_want rfl rfl ?_
  refine l_val (y_load1 ld_3 rfl m1 rfl) rfl rfl rfl ?_
  refine l_want rfl rfl ?_
  refine l_val (y_fieldAddr fo_24_3 rfl) rfl rfl rfl ?_
  refine l_want rfl rfl ?_
  refine l_val (y_load1 ld_3 rfl m0 rfl) rfl rfl rfl ?_
  refine l_want rfl rfl ?_
  refine l_val (y_bin rfl rfl rfl (boolNe rfl)) rfl rfl rfl ?_
  refine l_val (y_pick rfl rfl rfl) rfl rfl rfl ?_
  refine l_val (y_move rfl) rfl rfl rfl ?_
  refine l_want rfl rfl ?_
  refine l_val (y_fieldAddr fo_24_4 rfl) rfl rfl rfl ?_
  refine l_want rfl rfl ?_
  refine l_val (y_load1 ld_3 rfl m1 rfl) rfl rfl rfl ?_
  refine l_want rfl rfl ?_
  refine l_val (y_fieldAddr fo_24_4 rfl) rfl rfl rfl ?_
  refine l_want rfl rfl ?_
  refine l_val (y_load1 ld_3 rfl m0 rfl) rfl rfl rfl ?_
  refine l_want rfl rfl ?_
  refine l_val (y_bin rfl rfl rfl (boolNe rfl)) rfl rfl rfl ?_
  refine l_val (y_pick rfl rfl rfl) rfl rfl rfl ?_
  refine l_val (y_move rfl) rfl rfl rfl ?_
  refine l_want rfl rfl ?_
  refine l_val (y_fieldAddr fo_24_5 rfl) rfl rfl rfl ?_
  refine l_want rfl rfl ?_
  refine l_val (y_load1 ld_22 rfl m1 rfl) rfl rfl rfl ?_
  refine l_want rfl rfl ?_
  refine l_val (y_len sl_22 rfl) rfl rfl rfl ?_
  refine l_want rfl rfl ?_
  refine l_val (y_fieldAddr fo_24_5 rfl) rfl rfl rfl ?_
  refine l_want rfl rfl ?_
  refine l_val (y_load1 ld_22 rfl m0 rfl) rfl rfl rfl ?_
  refine l_want rfl rfl ?_
  refine l_val (y_len sl_22 rfl) rfl rfl rfl ?_
  refine l_want rfl rfl ?_
  refine l_val (y_bin rfl rfl rfl (boolNe rfl)) rfl rfl rfl ?_
  refine l_val (y_pick rfl rfl rfl) rfl rfl rfl ?_
  refine l_nil ?_
  refine q_then ?_
  refine c_false rfl rfl ?_
  refine c_skip ?_
  refine q_then ?_
  refine c_seq ?_
  refine c_seq ?_
  -- region 3
  refine c_region ?_
  refine l_val (y_fieldAddr fo_24_5 rfl) rfl rfl rfl ?_
  refine l_val (y_load1 ld_22 rfl m1 rfl) rfl rfl rfl ?_
  refine l_val (y_len sl_22 rfl) rfl rfl rfl ?_
  refine l_val (y_move rfl) rfl rfl rfl ?_
  refine l_nil ?_
  refine q_then ?_
  refine c_block ?_
  refine c_loop (ι := Nat) (φ := fun k => k ≤ gs.length) (L' := fun k => [(2, .pointer (some ⟨b2, 0, none⟩)), (3, .pointer (some ⟨b3, 0, none⟩)), (50, .slice A1 gs.length c1), (51, .int .i64 (gs.length : Int)), (52, .int .i64 (k : Int))]) (H' := fun _ => (b3, uC dir ad up dn gp (.slice A2 gs.length c2), 24) :: (b2, uC dir ad up dn gp (.slice A1 gs.length c1), 24) :: []) (fun k => gs.length - k) 0 (Nat.zero_le _) ⟨rfl, rfl, rfl, rfl, rfl, trivial⟩ (.cons .here (.cons .here .nil)) ?_
  intro k hk
  refine c_seq ?_
  -- region 4
  refine c_region ?_
  refine l_val (y_bin rfl rfl rfl rfl) rfl rfl rfl ?_
  refine l_nil ?_
  refine q_then ?_
  refine c_seq ?_
  refine c_cond rfl (fun hc53 => ?_) (fun hc53 => ?_)
  · skip
    have hk2 : k < gs.length := by simpa using hc53
    obtain ⟨g, hg⟩ := some_at hk2
    obtain ⟨p, rfl, hpb, hpc⟩ := hR1 k g hg
    obtain ⟨q, rfl, hqb, hqc⟩ := hR2 k g hg
    refine c_skip ?_
    refine q_then ?_
    refine c_seq ?_
    refine c_block ?_
    refine c_seq ?_
    -- region 5
    refine c_region ?_
    refine l_val (y_move rfl) rfl rfl rfl ?_
    refine l_val (y_indexAddr es_22 rfl rfl hk2) rfl rfl rfl ?_
    refine l_val (y_oldLoadN (vs := OG.cells g) ld_38 rfl (by rw [block_add]; exact hpb) (by simp) rfl (fun j v hj => by rw [add_add]; exact hpc j v hj)) rfl rfl rfl ?_
    refine l_gives rfl rfl (g_alloc ze_38) rfl ?_
    intro b6 hb6
    refine l_val (y_assign rfl) rfl rfl rfl ?_
    refine l_does rfl rfl (g_storeN (vs := [_, _, _, _, _, _, _, _, _, _]) (cs' := [_, _, _, _, _, _, _, _, _, _]) sz_38 rfl rfl rfl rfl rfl rfl rfl .here) ?_
    intro _ _
    refine l_nil ?_
    refine q_then ?_
    refine c_seq ?_
    -- region 6
    refine c_drawH mixed rfl ?_
    refine d_val (i := 0) rfl (by kernel_rfl) (by kernel_rfl) (by kernel_rfl) (y_loadN (vs := [_, _, _, _, _, _, _, _, _, _]) ld_38 rfl m0 rfl rfl) rfl (no_guard rfl) rfl (fun _ _ _ h => h) ?_
    refine d_val (i := 1) rfl (by kernel_rfl) (by kernel_rfl) (by kernel_rfl) (y_fieldAddr fo_24_5 rfl) rfl (no_guard rfl) rfl (fun _ _ _ h => h) ?_
    refine d_val (i := 2) rfl (by kernel_rfl) (by kernel_rfl) (by kernel_rfl) (y_load1 ld_22 rfl m1 rfl) rfl (no_guard rfl) rfl (fun _ _ _ h => h) ?_
    refine d_val (i := 3) rfl (by kernel_rfl) (by kernel_rfl) (by kernel_rfl) (y_move rfl) rfl (no_guard rfl) rfl (fun _ _ _ h => h) ?_
    refine d_val (i := 4) rfl (by kernel_rfl) (by kernel_rfl) (by kernel_rfl) (y_indexAddr es_22 rfl rfl hk2) rfl (no_guard rfl) rfl (fun _ _ _ h => h) ?_
    refine d_val (i := 5) rfl (by kernel_rfl) (by kernel_rfl) (by kernel_rfl) (y_oldLoadN (vs := OG.cells g) ld_38 rfl (by rw [block_add]; exact hqb) (by simp) rfl (fun j v hj => by rw [add_add]; exact hqc j v hj)) rfl (no_guard rfl) rfl (fun _ _ _ h => h) ?_
    refine d_val (i := 6) rfl (by kernel_rfl) (by kernel_rfl) (by kernel_rfl) (y_neq38 rfl rfl) rfl (no_guard rfl) rfl (fun _ _ _ h => h) ?_
    refine d_end (by kernel_rfl) (.cons .here (.cons .here (.cons .here .nil))) ?_
    refine q_then ?_
    refine c_false rfl rfl ?_
    refine c_skip ?_
    refine q_block ?_
    refine q_then ?_
    -- region 8
    refine c_region ?_
    refine l_val (y_bin rfl rfl rfl (fitN (m := k + 1) (by omega) (by omega))) rfl rfl rfl ?_
    refine l_val (y_move rfl) rfl rfl rfl ?_
    refine l_nil ?_
    exact q_rnd (k + 1) hk2 (by omega) ⟨rfl, rfl, rfl, rfl, rfl, trivial⟩ (.cons (.there .here) (.cons (.there .here) .nil))
  · skip
    refine c_exit ?_
    refine q_then_exit ?_
    refine q_rnd_exit ?_
    refine q_block_exit ?_
    refine q_then ?_
    refine c_seq ?_
    -- region 9
    refine c_region ?_
    refine l_val (y_assign rfl) rfl rfl rfl ?_
    refine l_nil ?_
    refine q_then ?_
    refine c_ret ?_
    exact body_ret (rs := [.tmp 4]) rfl (vs := [.bool true]) ⟨rfl, trivial⟩ (out_end () trivial rfl .nil) _ (.inr rfl)

end Go.Proofs.Ytbepljmeflndkaa
