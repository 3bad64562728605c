/- Small functions on texts and glyphs. -/
import Derived.Test.YtbepljmeflndkaaQ
import Derived.Test.YtbepljmeflndkaaN
import Derived.Test.YtbepljmeflndkaaR
namespace Go.Proofs.Ytbepljmeflndkaa
open Go.Eng
set_option maxRecDepth 100000
attribute [local irreducible] IntKind.wrap Int.tdiv Int.tmod Int.emod sm encO encG maxLen sepr

theorem f33_any (w : World) (c : Int) : Calls Try.prog 33 [Value.int .i32 c].toArray w (Out w [] (fun _ : Unit => True) (fun _ => .bool (sepr c)) (fun _ => [])) := by
  refine enter (n := 12) Try.func33 rfl rfl rfl (Hp.refl w) ?_
  refine c_seq ?_
  -- region 0
  refine c_region ?_
  refine l_val (y_assign rfl) rfl rfl rfl ?_
  refine l_nil ?_
  refine q_then ?_
  refine c_seq ?_
  refine c_seq ?_
  -- region 1
  refine c_region ?_
  refine l_val (y_move rfl) rfl rfl rfl ?_
  refine l_nil ?_
  refine q_then ?_
  refine c_block ?_
  refine c_seq ?_
  refine c_seq ?_
  -- region 2
  refine c_region ?_
  refine l_val (y_bin rfl rfl rfl rfl) rfl rfl rfl ?_
  refine l_val (y_assign rfl) rfl rfl rfl ?_
  refine l_nil ?_
  refine q_then ?_
  refine c_cut (ι := Unit) (φ := fun _ => True) (L' := fun _ => [(4, .bool (sepr c))]) (H' := fun _ => []) ?_ ?_
  · skip
    refine c_cond rfl (fun hq1 => ?_) (fun hq1 => ?_)
    · skip
      refine c_skip ?_
      exact q_cut () trivial ⟨(someB (by unfold sepr; exact (sepT hq1))), trivial⟩ .nil
    · skip
      refine c_seq ?_
      -- region 3
      refine c_region ?_
      refine l_val (y_bin rfl rfl rfl rfl) rfl rfl rfl ?_
      refine l_val (y_assign rfl) rfl rfl rfl ?_
      refine l_nil ?_
      refine q_then ?_
      refine c_cond rfl (fun hq2 => ?_) (fun hq2 => ?_)
      · skip
        refine c_skip ?_
        exact q_cut () trivial ⟨(someB (by unfold sepr; exact (sepF hq1 (sepT hq2)))), trivial⟩ .nil
      · skip
        refine c_seq ?_
        -- region 4
        refine c_region ?_
        refine l_val (y_bin rfl rfl rfl rfl) rfl rfl rfl ?_
        refine l_val (y_assign rfl) rfl rfl rfl ?_
        refine l_nil ?_
        refine q_then ?_
        refine c_cond rfl (fun hq3 => ?_) (fun hq3 => ?_)
        · skip
          refine c_skip ?_
          exact q_cut () trivial ⟨(someB (by unfold sepr; exact (sepF hq1 (sepF hq2 (sepT hq3))))), trivial⟩ .nil
        · skip
          refine c_seq ?_
          -- region 5
          refine c_region ?_
          refine l_val (y_bin rfl rfl rfl rfl) rfl rfl rfl ?_
          refine l_val (y_assign rfl) rfl rfl rfl ?_
          refine l_nil ?_
          refine q_then ?_
          refine c_cond rfl (fun hq4 => ?_) (fun hq4 => ?_)
          · skip
            refine c_skip ?_
            exact q_cut () trivial ⟨(someB (by unfold sepr; exact (sepF hq1 (sepF hq2 (sepF hq3 (sepT hq4)))))), trivial⟩ .nil
          · skip
            refine c_seq ?_
            -- region 6
            refine c_region ?_
            refine l_val (y_bin rfl rfl rfl rfl) rfl rfl rfl ?_
            refine l_val (y_assign rfl) rfl rfl rfl ?_
            refine l_nil ?_
            refine q_then ?_
            refine c_cond rfl (fun hq5 => ?_) (fun hq5 => ?_)
            · skip
              refine c_skip ?_
              exact q_cut () trivial ⟨(someB (by unfold sepr; exact (sepF hq1 (sepF hq2 (sepF hq3 (sepF hq4 (sepT hq5))))))), trivial⟩ .nil
            · skip
              refine c_seq ?_
              -- region 7
              refine c_region ?_
              refine l_val (y_bin rfl rfl rfl rfl) rfl rfl rfl ?_
              refine l_val (y_assign rfl) rfl rfl rfl ?_
              refine l_nil ?_
              refine q_then ?_
              refine c_cond rfl (fun hq6 => ?_) (fun hq6 => ?_)
              · skip
                refine c_skip ?_
                exact q_cut () trivial ⟨(someB (by unfold sepr; exact (sepF hq1 (sepF hq2 (sepF hq3 (sepF hq4 (sepF hq5 (sepT hq6)))))))), trivial⟩ .nil
              · skip
                -- region 8
                refine c_region ?_
                refine l_val (y_bin rfl rfl rfl rfl) rfl rfl rfl ?_
                refine l_val (y_assign rfl) rfl rfl rfl ?_
                refine l_nil ?_
                exact q_cut () trivial ⟨(someB (by unfold sepr; exact (sepF hq1 (sepF hq2 (sepF hq3 (sepF hq4 (sepF hq5 (sepF hq6 rfl)))))))), trivial⟩ .nil
  intro _ _
  refine q_then ?_
  refine c_cond rfl (fun hs => ?_) (fun hs => ?_)
  · skip
    refine c_seq ?_
    -- region 9
    refine c_region ?_
    refine l_val (y_assign rfl) rfl rfl rfl ?_
    refine l_nil ?_
    refine q_then ?_
    refine c_ret ?_
    refine q_block_ret ?_
    refine q_then_ret ?_
    exact body_ret (rs := [.tmp 2]) rfl (vs := [.bool (sepr c)]) ⟨by exact someB hs.symm, trivial⟩ (out_end () trivial rfl .nil) _ (.inr rfl)
  · skip
    refine c_skip ?_
    refine q_block ?_
    refine q_then ?_
    refine c_seq ?_
    -- region 10
    refine c_region ?_
    refine l_val (y_assign rfl) rfl rfl rfl ?_
    refine l_nil ?_
    refine q_then ?_
    refine c_ret ?_
    exact body_ret (rs := [.tmp 2]) rfl (vs := [.bool (sepr c)]) ⟨by exact someB hs.symm, trivial⟩ (out_end () trivial rfl .nil) _ (.inr rfl)

theorem f34_any (w : World) (bU bG cap n i : Nat) (sp : List Value) (dir ad up dn gp d : Int) (v : Bool) (hv : decide (dir ≥ 2) = v) (M : List OG) (x : OG) (hk : i < M.length) (hi : i < n)
    (hw : Hp w (((bU, uC dir ad up dn gp (.slice (some ⟨bG, 0, none⟩) n cap), 24) :: (bG, encO (M.set i (x)) ++ sp, 38) :: []).map (·.1)) ((bU, uC dir ad up dn gp (.slice (some ⟨bG, 0, none⟩) n cap), 24) :: (bG, encO (M.set i (x)) ++ sp, 38) :: []) w) :
    Calls Try.prog 34 [Value.pointer (some ⟨bU, 0, none⟩), .int .i64 (i : Int), .int .i64 d].toArray w (Out w (((bU, uC dir ad up dn gp (.slice (some ⟨bG, 0, none⟩) n cap), 24) :: (bG, encO (M.set i (x)) ++ sp, 38) :: []).map (·.1)) (fun _ : Unit => True) (fun _ => .tuple #[]) (fun _ => (bU, uC dir ad up dn gp (.slice (some ⟨bG, 0, none⟩) n cap), 24) :: (bG, encO (M.set i (mvO v d x)) ++ sp, 38) :: [])) := by
  refine enter (n := 35) Try.func34 rfl rfl rfl hw ?_
  refine c_seq ?_
  -- region 0
  refine c_region ?_
  refine l_val (y_move rfl) rfl rfl rfl ?_
  refine l_val (y_nilCheck rfl) rfl rfl rfl ?_
  refine l_val (y_fieldAddr fo_24_0 rfl) rfl rfl rfl ?_
  refine l_val (y_load1 ld_3 rfl m0 rfl) rfl rfl rfl ?_
  refine l_val (y_bin rfl rfl rfl rfl) rfl rfl rfl ?_
  refine l_nil ?_
  refine q_then ?_
  refine c_cond rfl (fun hc10 => ?_) (fun hc10 => ?_)
  · skip
    have hv2 : v = true := by rw [← hv]; exact hc10
    subst hv2
    -- region 1
    refine c_region ?_
    refine l_val (y_move rfl) rfl rfl rfl ?_
    refine l_val (y_nilCheck rfl) rfl rfl rfl ?_
    refine l_val (y_fieldAddr fo_24_5 rfl) rfl rfl rfl ?_
    refine l_val (y_load1 ld_22 rfl m0 rfl) rfl rfl rfl ?_
    refine l_val (y_move rfl) rfl rfl rfl ?_
    refine l_val (y_indexAddrOwn es_22 rfl rfl hi) rfl rfl rfl ?_
    refine l_val (y_fieldAddr fo_38_6 rfl) rfl rfl rfl ?_
    refine l_val (y_load1 ld_3 rfl m1 (oget hk rfl)) rfl rfl rfl ?_
    refine l_val (y_move rfl) rfl rfl rfl ?_
    refine l_val (y_bin rfl rfl rfl rfl) rfl rfl rfl ?_
    refine l_val (y_indexAddrOwn es_22 rfl rfl hi) rfl rfl rfl ?_
    refine l_val (y_fieldAddr fo_38_6 rfl) rfl rfl rfl ?_
    refine l_does rfl rfl (g_store1 (cs' := encO ((M).set i ({ x with yo := IntKind.i64.wrap ((x).yo + d) } : OG)) ++ sp) sz_3 rfl rfl rfl (ofit hk rfl) rfl (oset (x := x) (y := { x with yo := IntKind.i64.wrap ((x).yo + d) }) hk rfl rfl) (.there .here)) ?_
    intro _ _
    refine l_nil ?_
    exact body_ret (rs := []) rfl (vs := []) trivial (out_end () trivial rfl (.cons .here (.cons .here .nil))) _ (.inl rfl)
  · skip
    have hv2 : v = false := by rw [← hv]; exact hc10
    subst hv2
    -- region 2
    refine c_region ?_
    refine l_val (y_move rfl) rfl rfl rfl ?_
    refine l_val (y_nilCheck rfl) rfl rfl rfl ?_
    refine l_val (y_fieldAddr fo_24_5 rfl) rfl rfl rfl ?_
    refine l_val (y_load1 ld_22 rfl m0 rfl) rfl rfl rfl ?_
    refine l_val (y_move rfl) rfl rfl rfl ?_
    refine l_val (y_indexAddrOwn es_22 rfl rfl hi) rfl rfl rfl ?_
    refine l_val (y_fieldAddr fo_38_5 rfl) rfl rfl rfl ?_
    refine l_val (y_load1 ld_3 rfl m1 (oget hk rfl)) rfl rfl rfl ?_
    refine l_val (y_move rfl) rfl rfl rfl ?_
    refine l_val (y_bin rfl rfl rfl rfl) rfl rfl rfl ?_
    refine l_val (y_indexAddrOwn es_22 rfl rfl hi) rfl rfl rfl ?_
    refine l_val (y_fieldAddr fo_38_5 rfl) rfl rfl rfl ?_
    refine l_does rfl rfl (g_store1 (cs' := encO ((M).set i ({ x with xo := IntKind.i64.wrap ((x).xo + d) } : OG)) ++ sp) sz_3 rfl rfl rfl (ofit hk rfl) rfl (oset (x := x) (y := { x with xo := IntKind.i64.wrap ((x).xo + d) }) hk rfl rfl) (.there .here)) ?_
    intro _ _
    refine l_nil ?_
    exact body_ret (rs := []) rfl (vs := []) trivial (out_end () trivial rfl (.cons .here (.cons .here .nil))) _ (.inl rfl)

theorem f24_any (w : World) (A : Option Addr) (cap : Nat) (gs : List OG) (dir ad up dn gp m : Int) (gv : Value) (hgv : gv = .slice A gs.length cap) (hR : RdO w A gs) (hlen : gs.length ≤ 1000) (hC : ∀ g ∈ gs, g.cl < m) :
    Calls Try.prog 24 [Value.agg (uC dir ad up dn gp gv).toArray, .int .i64 m].toArray w (Out w [] (fun _ : Unit => True) (fun _ => .bool true) (fun _ => [])) := by
  subst hgv
  refine enter (n := 19) Try.func24 rfl rfl rfl (Hp.refl w) ?_
  refine c_seq ?_
  -- region 0
  refine c_region ?_
  refine l_gives rfl rfl (g_box (vs := [_, _, _, _, _, _]) rfl rfl) rfl ?_
  intro b2 hb2
  refine l_val (y_assign rfl) rfl rfl rfl ?_
  refine l_nil ?_
  refine q_then ?_
  refine c_seq ?_
  refine c_seq ?_
  -- region 1
  refine c_region ?_
  refine l_val (y_fieldAddr fo_24_5 rfl) rfl rfl rfl ?_
  refine l_val (y_load1 ld_22 rfl m0 rfl) rfl rfl rfl ?_
  refine l_val (y_len sl_22 rfl) rfl rfl rfl ?_
  refine l_val (y_move rfl) rfl rfl rfl ?_
  refine l_nil ?_
  refine q_then ?_
  refine c_block ?_
  refine c_loop (ι := Nat) (φ := fun k => k ≤ gs.length) (L' := fun k => [(1, .int .i64 m), (8, .slice A gs.length cap), (9, .int .i64 (gs.length : Int)), (10, .int .i64 (k : Int))]) (H' := fun _ => []) (fun k => gs.length - k) 0 (Nat.zero_le _) ⟨rfl, rfl, rfl, rfl, trivial⟩ .nil ?_
  intro k hk
  refine c_seq ?_
  -- region 2
  refine c_region ?_
  refine l_val (y_bin rfl rfl rfl rfl) rfl rfl rfl ?_
  refine l_nil ?_
  refine q_then ?_
  refine c_seq ?_
  refine c_cond rfl (fun hc11 => ?_) (fun hc11 => ?_)
  · skip
    have hk2 : k < gs.length := by simpa using hc11
    obtain ⟨g, hg⟩ := some_at hk2
    obtain ⟨p, rfl, hpb, hpc⟩ := hR k g hg
    have hcl := hC g (List.mem_of_getElem? hg)
    refine c_skip ?_
    refine q_then ?_
    refine c_seq ?_
    refine c_block ?_
    refine c_seq ?_
    -- region 3
    refine c_region ?_
    refine l_val (y_indexAddr es_22 rfl rfl hk2) rfl rfl rfl ?_
    refine l_val (y_oldLoadN (vs := OG.cells g) ld_38 rfl (by rw [block_add]; exact hpb) (by simp) rfl (fun j v hj => by rw [add_add]; exact hpc j v hj)) rfl rfl rfl ?_
    refine l_gives rfl rfl (g_alloc ze_38) rfl ?_
    intro b6 hb6
    refine l_does rfl rfl (g_storeN (vs := [_, _, _, _, _, _, _, _, _, _]) (cs' := [_, _, _, _, _, _, _, _, _, _]) sz_38 rfl rfl rfl rfl rfl rfl rfl .here) ?_
    intro _ _
    refine l_nil ?_
    refine q_then ?_
    refine c_seq ?_
    -- region 4
    refine c_region ?_
    refine l_val (y_fieldAddr fo_38_7 rfl) rfl rfl rfl ?_
    refine l_val (y_load1 ld_3 rfl m0 rfl) rfl rfl rfl ?_
    refine l_val (y_move rfl) rfl rfl rfl ?_
    refine l_val (y_bin rfl rfl rfl (boolF (by omega))) rfl rfl rfl ?_
    refine l_nil ?_
    refine q_then ?_
    refine c_false rfl rfl ?_
    refine c_skip ?_
    refine q_block ?_
    refine q_then ?_
    -- region 6
    refine c_region ?_
    refine l_val (y_bin rfl rfl rfl (fitN (m := k + 1) (by omega) (by omega))) rfl rfl rfl ?_
    refine l_val (y_move rfl) rfl rfl rfl ?_
    refine l_nil ?_
    exact q_rnd (k + 1) hk2 (by omega) ⟨rfl, rfl, rfl, rfl, trivial⟩ .nil
  · skip
    refine c_exit ?_
    refine q_then_exit ?_
    refine q_rnd_exit ?_
    refine q_block_exit ?_
    refine q_then ?_
    refine c_seq ?_
    -- region 7
    refine c_region ?_
    refine l_val (y_assign rfl) rfl rfl rfl ?_
    refine l_nil ?_
    refine q_then ?_
    refine c_ret ?_
    exact body_ret (rs := [.tmp 4]) rfl (vs := [.bool true]) ⟨rfl, trivial⟩ (out_end () trivial rfl .nil) _ (.inr rfl)

theorem min40 (n : Nat) : Value.int .i64 (min (n : Int) 40) = .int .i64 ((min n 40 : Nat) : Int) := by congr 1; omega
theorem tx_own (w : World) (b : Nat) : ∀ w1, Hp w [] (TxH (some b)) w1 → RdT w1 [] (some ⟨b, 0, none⟩) [32] := by
  intro w1 h i c hc
  have hi : i = 0 := by have := (List.getElem?_eq_some_iff.1 hc).1; simp at this; exact this
  subst hi
  simp at hc
  subst hc
  refine ⟨_, rfl, h.lt (.head _), List.not_mem_nil, ?_⟩
  rw [Addr.add_lit, h.cell (.head _)]
  rfl
theorem tx_old {w : World} {A : Option Addr} {ts : List Int} (hT : RdT w [] A ts) : ∀ w1, Hp w [] (TxH none) w1 → RdT w1 [] A (ts.take 40) := by
  intro w1 h i c hc
  rw [List.getElem?_take] at hc
  split at hc
  · exact hT.empty h i c hc
  · cases hc
/-- The text of the law: the own one, or the head of the given one. -/
def TxIs (A : Option Addr) (ts : List Int) (bt : Option Nat) (At : Option Addr) (tx : List Int) : Prop := (∃ b, bt = some b ∧ At = some ⟨b, 0, none⟩ ∧ tx = [32]) ∨ (bt = none ∧ At = A ∧ tx = ts.take 40)
theorem tx_rd {w w1 : World} {A At : Option Addr} {ts tx : List Int} {bt : Option Nat} (h : TxIs A ts bt At tx) (hT : RdT w [] A ts) (hw : Hp w [] (TxH bt) w1) : RdT w1 [] At tx := by
  rcases h with ⟨b, rfl, rfl, rfl⟩ | ⟨rfl, rfl, rfl⟩
  · exact tx_own w b w1 hw
  · exact tx_old hT w1 hw
theorem f12_any (w : World) (A : Option Addr) (cap : Nat) (ts : List Int) (hcap : ts.length ≤ cap) (hT : RdT w [] A ts) :
    Calls Try.prog 12 [Value.slice A ts.length cap].toArray w (Out w [] (fun x : Option Nat × Option Addr × Nat × List Int => 1 ≤ x.2.2.2.length ∧ x.2.2.2.length ≤ 40 ∧ x.2.2.2.length ≤ x.2.2.1 ∧ TxIs A ts x.1 x.2.1 x.2.2.2)
      (fun x => .slice x.2.1 x.2.2.2.length x.2.2.1) (fun x => TxH x.1)) := by
  refine enter (n := 12) Try.func12 rfl rfl rfl (Hp.refl w) ?_
  refine c_seq ?_
  -- region 0
  refine c_region ?_
  refine l_val (y_assign rfl) rfl rfl rfl ?_
  refine l_nil ?_
  refine q_then ?_
  refine c_seq ?_
  refine c_seq ?_
  -- region 1
  refine c_region ?_
  refine l_val (y_move rfl) rfl rfl rfl ?_
  refine l_val (y_len sl_29 rfl) rfl rfl rfl ?_
  refine l_val (y_bin rfl rfl rfl rfl) rfl rfl rfl ?_
  refine l_nil ?_
  refine q_then ?_
  refine c_cond rfl (fun hc5 => ?_) (fun hc5 => ?_)
  · skip
    have ht0 : ts.length = 0 := by simpa using hc5
    refine c_seq ?_
    -- region 2
    refine c_region ?_
    refine l_gives rfl rfl (g_buildSlice (cs := [_]) sl_29 sz_21 ze_21 rfl rfl rfl rfl (by simp [Value.cells]) rfl rfl) rfl ?_
    intro b6 hb6
    refine l_val (y_assign rfl) rfl rfl rfl ?_
    refine l_nil ?_
    refine q_then ?_
    refine c_ret ?_
    refine q_then_ret ?_
    exact body_ret (rs := [.tmp 2]) rfl (vs := [.slice (some ⟨b6, 0, none⟩) 1 1]) ⟨rfl, trivial⟩ (out_end (some b6, some ⟨b6, 0, none⟩, 1, [32]) ⟨by simp, by simp, by simp, .inl ⟨b6, rfl, rfl, rfl⟩⟩ rfl (.cons .here .nil)) _ (.inr rfl)
  · skip
    have ht0 : 0 < ts.length := by simp only [beq_eq_false_iff_ne, ne_eq] at hc5; omega
    obtain ⟨c0, hc0⟩ := some_at ht0
    obtain ⟨p, rfl, hpb, _, _⟩ := hT 0 c0 hc0
    refine c_skip ?_
    refine q_then ?_
    refine c_seq ?_
    -- region 3
    refine c_region ?_
    refine l_val (y_move rfl) rfl rfl rfl ?_
    refine l_val (y_move rfl) rfl rfl rfl ?_
    refine l_val (y_len sl_29 rfl) rfl rfl rfl ?_
    refine l_val (y_minE (v := .int .i64 ((min ts.length 40 : Nat) : Int)) rfl rfl (min40 _)) rfl rfl rfl ?_
    refine l_val (y_sliceH es_29 rfl rfl (by omega) (by omega)) rfl rfl rfl ?_
    refine l_val (y_assign rfl) rfl rfl rfl ?_
    refine l_nil ?_
    refine q_then ?_
    refine c_ret ?_
    exact body_ret (rs := [.tmp 2]) rfl (vs := [.slice (some p) (min ts.length 40) cap]) ⟨rfl, trivial⟩ (out_end (none, some p, cap, ts.take 40) ⟨by simp; omega, by simp; omega, by simp; omega, .inr ⟨rfl, rfl, rfl⟩⟩ (by simp [Nat.min_comm, rets]) .nil) _ (.inr rfl)

/-- A slice of slices of glyphs, in memory that was there. -/
def RdQ (w : World) (A : Option Addr) (ls : List (List OG)) : Prop := ∀ i l, ls[i]? = some l → ∃ p A' cap, A = some p ∧ p.block < w.heap.size ∧ l.length ≤ cap ∧ RdO w A' l ∧ w.cell? (p.add i) = some (.slice A' l.length cap)
theorem RdQ.keep {w0 w : World} {H : Heap} {A : Option Addr} {ls : List (List OG)} (h : RdQ w0 A ls) (hw : Hp w0 [] H w) : RdQ w A ls := by
  intro i r hr
  obtain ⟨p, A', cap, rfl, hb, hc, hR, hcell⟩ := h i r hr
  refine ⟨p, A', cap, rfl, Nat.lt_of_lt_of_le hb hw.size, hc, hR.keep hw, ?_⟩
  rw [hw.oldCell (by rw [block_add]; exact hb) List.not_mem_nil]
  exact hcell
theorem f11_any (w : World) (A : Option Addr) (cap : Nat) (ls : List (List OG)) (hlen : ls.length ≤ maxLen) (hR : RdQ w A ls) :
    Calls Try.prog 11 [Value.slice A ls.length cap].toArray w (Out w [] (fun _ : Bool => True) (fun b => .bool b) (fun _ => [])) := by
  refine enter (n := 18) Try.func11 rfl rfl rfl (Hp.refl w) ?_
  refine c_seq ?_
  -- region 0
  refine c_region ?_
  refine l_val (y_assign rfl) rfl rfl rfl ?_
  refine l_nil ?_
  refine q_then ?_
  refine c_seq ?_
  refine c_seq ?_
  -- region 1
  refine c_region ?_
  refine l_val (y_move rfl) rfl rfl rfl ?_
  refine l_val (y_len sl_30 rfl) rfl rfl rfl ?_
  refine l_val (y_bin rfl rfl rfl rfl) rfl rfl rfl ?_
  refine l_nil ?_
  refine q_then ?_
  refine c_cond rfl (fun hc7 => ?_) (fun hc7 => ?_)
  · skip
    refine c_seq ?_
    -- region 2
    refine c_region ?_
    refine l_val (y_assign rfl) rfl rfl rfl ?_
    refine l_nil ?_
    refine q_then ?_
    refine c_ret ?_
    refine q_then_ret ?_
    exact body_ret (rs := [.tmp 2]) rfl (vs := [.bool false]) ⟨rfl, trivial⟩ (out_end (x := false) (φ := fun _ : Bool => True) (v := fun b => .bool b) (H' := fun _ => []) trivial rfl .nil) _ (.inr rfl)
  · skip
    refine c_skip ?_
    refine q_then ?_
    refine c_seq ?_
    refine c_seq ?_
    -- region 3
    refine c_region ?_
    refine l_val (y_move rfl) rfl rfl rfl ?_
    refine l_val (y_len sl_30 rfl) rfl rfl rfl ?_
    refine l_val (y_move rfl) rfl rfl rfl ?_
    refine l_nil ?_
    refine q_then ?_
    refine c_block ?_
    refine c_loop (ι := Nat) (φ := fun k => k ≤ ls.length) (L' := fun k => [(8, .slice A ls.length cap), (9, .int .i64 (ls.length : Int)), (10, .int .i64 (k : Int))]) (H' := fun _ => []) (fun k => ls.length - k) 0 (Nat.zero_le _) ⟨rfl, rfl, rfl, trivial⟩ .nil ?_
    intro k hk
    refine c_seq ?_
    -- region 4
    refine c_region ?_
    refine l_val (y_bin rfl rfl rfl rfl) rfl rfl rfl ?_
    refine l_nil ?_
    refine q_then ?_
    refine c_seq ?_
    refine c_cond rfl (fun hc11 => ?_) (fun hc11 => ?_)
    · skip
      have hk2 : k < ls.length := by simpa using hc11
      obtain ⟨l, hl⟩ := some_at hk2
      obtain ⟨p, A2, c2, rfl, hpb, _, _, hpc⟩ := hR k l hl
      refine c_skip ?_
      refine q_then ?_
      refine c_seq ?_
      refine c_block ?_
      refine c_seq ?_
      -- region 5
      refine c_region ?_
      refine l_val (y_indexAddr es_30 rfl rfl hk2) rfl rfl rfl ?_
      refine l_val (y_oldLoad1 ld_22 rfl (by rw [block_add]; exact hpb) (by simp) (by rw [Nat.mul_one]; exact hpc)) rfl rfl rfl ?_
      refine l_val (y_assign rfl) rfl rfl rfl ?_
      refine l_nil ?_
      refine q_then ?_
      refine c_seq ?_
      -- region 6
      refine c_region ?_
      refine l_val (y_move rfl) rfl rfl rfl ?_
      refine l_val (y_len sl_22 rfl) rfl rfl rfl ?_
      refine l_val (y_bin rfl rfl rfl rfl) rfl rfl rfl ?_
      refine l_nil ?_
      refine q_then ?_
      refine c_cond rfl (fun hc16 => ?_) (fun hc16 => ?_)
      · skip
        refine c_seq ?_
        -- region 7
        refine c_region ?_
        refine l_val (y_assign rfl) rfl rfl rfl ?_
        refine l_nil ?_
        refine q_then ?_
        refine c_ret ?_
        refine q_block_ret ?_
        refine q_then_ret ?_
        refine q_rnd_ret ?_
        refine q_block_ret ?_
        refine q_then_ret ?_
        exact body_ret (rs := [.tmp 2]) rfl (vs := [.bool false]) ⟨rfl, trivial⟩ (out_end (x := false) (φ := fun _ : Bool => True) (v := fun b => .bool b) (H' := fun _ => []) trivial rfl .nil) _ (.inr rfl)
      · skip
        refine c_skip ?_
        refine q_block ?_
        refine q_then ?_
        -- region 8
        refine c_region ?_
        refine l_val (y_bin rfl rfl rfl (fitN (m := k + 1) (by omega) (by unfold maxLen at hlen; omega))) rfl rfl rfl ?_
        refine l_val (y_move rfl) rfl rfl rfl ?_
        refine l_nil ?_
        exact q_rnd (k + 1) hk2 (by omega) ⟨rfl, rfl, rfl, trivial⟩ .nil
    · skip
      refine c_exit ?_
      refine q_then_exit ?_
      refine q_rnd_exit ?_
      refine q_block_exit ?_
      refine q_then ?_
      refine c_seq ?_
      -- region 9
      refine c_region ?_
      refine l_val (y_assign rfl) rfl rfl rfl ?_
      refine l_nil ?_
      refine q_then ?_
      refine c_ret ?_
      exact body_ret (rs := [.tmp 2]) rfl (vs := [.bool true]) ⟨rfl, trivial⟩ (out_end (x := true) (φ := fun _ : Bool => True) (v := fun b => .bool b) (H' := fun _ => []) trivial rfl .nil) _ (.inr rfl)

end Go.Proofs.Ytbepljmeflndkaa
