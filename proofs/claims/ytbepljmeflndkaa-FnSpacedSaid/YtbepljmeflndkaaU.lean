/- AddLetterSpacing. -/
import Derived.Test.YtbepljmeflndkaaT
namespace Go.Proofs.Ytbepljmeflndkaa
open Go.Eng
set_option maxRecDepth 100000
attribute [local irreducible] IntKind.wrap Int.tdiv Int.tmod Int.emod sm encO encG maxLen sepr

theorem orT {i : Nat} {st : Bool} (h : decide ((i : Int) > ((0 : Nat) : Int)) = true) : true = (decide (0 < i) || !st) := by
  have : 0 < i := by simpa using h
  rw [decide_eq_true this]; rfl
theorem orF {i : Nat} {st : Bool} (h : decide ((i : Int) > ((0 : Nat) : Int)) = false) : (!st) = (decide (0 < i) || !st) := by
  have : ¬ 0 < i := by simpa using h
  rw [decide_eq_false this]; rfl
theorem endT {x : Bool} {k n : Nat} {st : Bool} (h : x = true) (hx : x = decide (k < n)) : true = (decide (k < n) || !st) := by rw [← hx, h]; rfl
theorem endF {x : Bool} {k n : Nat} {st : Bool} (h : x = false) (hx : x = decide (k < n)) : (!st) = (decide (k < n) || !st) := by rw [← hx, h]; rfl
theorem ltN {k n : Nat} : decide ((k : Int) < (n : Int)) = decide (k < n) := by simp
theorem geN {k n : Nat} : (!decide ((k : Int) ≥ (n : Int))) = decide (k < n) := by
  by_cases h : k < n
  · rw [decide_eq_true h, decide_eq_false (by omega)]; rfl
  · rw [decide_eq_false h, decide_eq_true (by omega)]; rfl
theorem updB_t {α : Type} {f : α → α} {M : List α} {i : Nat} {x y : α} {c : Bool} (hc : c = true) (hk : i < M.length) (he : f x = y) : M.set i y = updB c f (M.set i x) i := by
  subst hc he
  exact (upd_set hk).symm
theorem updB_f {α : Type} {f : α → α} {L : List α} {i : Nat} {c : Bool} (hc : c = false) : L = updB c f L i := by subst hc; rfl
theorem at_map {α : Type} {p : α → Int} {L gs : List α} {i : Nat} {m : Int} (h : L.map p = gs.map p) (hm : (gs.map p)[i]? = some m) : ∃ g, L[i]? = some g ∧ p g = m := by
  rw [← h, List.getElem?_map] at hm
  obtain ⟨g, hg, he⟩ := Option.map_eq_some_iff.1 hm
  exact ⟨g, hg, he⟩
theorem hG_gl (v : Bool) (d : Int) (g : GL) : (hG v d g).gl = g.gl := by cases v <;> rfl
theorem tG_gl (v : Bool) (d : Int) (g : GL) : (tG v d g).gl = g.gl := by cases v <;> rfl
theorem hO_gl (v : Bool) (d : Int) (g : OG) : (hO v d g).gl = g.gl := by cases v <;> rfl
theorem adO_gl (d : Int) (g : OG) : (adO d g).gl = g.gl := rfl
/-- One round: what is left to do, and the shape. -/
structure LetSt {α : Type} (p : α → Int) (h t : α → α) (st en : Bool) (gs F : List α) (i : Nat) (ms : List Nat) (L : List α) : Prop where
  len : L.length = gs.length
  shape : L.map p = gs.map p
  shp : Shp (gs.map p) i ms
  fin : letL h t st en gs.length i ms L = F
theorem LetSt.next {α : Type} {p : α → Int} {h t : α → α} {st en : Bool} {gs F : List α} {i m : Nat} {r : List Nat} {L K K3 : List α} (hs : LetSt p h t st en gs F i (m :: r) L) (h1 : Shp (gs.map p) (i + m) r) (hh : ∀ x, p (h x) = p x) (ht : ∀ x, p (t x) = p x)
    (hK : K = updB (decide (0 < i) || !st) h L i) (hK3 : K3 = updB (decide (i + m < gs.length) || !en) t K (i + m - 1)) : LetSt p h t st en gs F (i + m) r K3 := by
  subst hK
  subst hK3
  exact ⟨by rw [updB_len, updB_len]; exact hs.len, by rw [updB_map p ht, updB_map p hh]; exact hs.shape, h1, hs.fin⟩
theorem LetSt.done {α : Type} {p : α → Int} {h t : α → α} {st en : Bool} {gs F : List α} {i : Nat} {ms : List Nat} {L : List α} (hs : LetSt p h t st en gs F i ms L) (hi : ¬ i < gs.length) : L = F := by
  have := sh_end hs.shp (by rw [List.length_map]; exact hi)
  subst this
  exact hs.fin
set_option maxHeartbeats 4000000 in
theorem f30_any (w : World) (bO o : Nat) (B : Int → List Value) (ad up dn gp dir s : Int) (st en : Bool) (hdir : 0 ≤ dir ∧ dir ≤ 3) (sv : Sv) (gs : List GL) (ms : List Nat) (hms : Shp (gs.map GL.gl) 0 ms) (hok : slOk sv gs.length 16 (encG gs)) (hlen : gs.length ≤ 1000)
    (hM : Mid B o up dn gp dir (slV sv gs.length)) (hw : Hp w (((bO, B ad, 53) :: slH sv (encG gs) 67).map (·.1)) ((bO, B ad, 53) :: slH sv (encG gs) 67) w) :
    Calls Try.prog 30 [Value.pointer (some ⟨bO, o, none⟩), .int .i32 s, .bool st, .bool en].toArray w (Out w (((bO, B ad, 53) :: slH sv (encG gs) 67).map (·.1)) (fun _ : Unit => True) (fun _ => .tuple #[])
      (fun _ => (bO, B (sumW (letL (hG (decide (2 ≤ dir)) (IntKind.i32.wrap (s.tdiv 2))) (tG (decide (2 ≤ dir)) (IntKind.i32.wrap (s.tdiv 2))) st en gs.length 0 ms gs)), 53) :: slH sv (encG (letL (hG (decide (2 ≤ dir)) (IntKind.i32.wrap (s.tdiv 2))) (tG (decide (2 ≤ dir)) (IntKind.i32.wrap (s.tdiv 2))) st en gs.length 0 ms gs)) 67)) := by
  refine enter (n := 190) Try.func30 rfl rfl rfl hw ?_
  refine c_seq ?_
  -- region 0
  refine c_region ?_
  refine l_val (y_move rfl) rfl rfl rfl ?_
  refine l_val (y_nilCheck rfl) rfl rfl rfl ?_
  refine l_val (y_fieldAddr fo_53_5 rfl) rfl rfl rfl ?_
  refine l_val (y_load1 ld_48 rfl m0 (hM.get rfl)) rfl rfl rfl ?_
  refine l_call ok_32 rfl rfl (out_calm (fun w1 => f32_any dir hdir w1)) ?_
  intro _ _
  refine l_val (y_assign rfl) rfl rfl rfl ?_
  refine l_nil ?_
  refine q_then ?_
  refine c_seq ?_
  -- region 1
  refine c_region ?_
  refine l_val (y_move rfl) rfl rfl rfl ?_
  refine l_val (y_quo rfl rfl (by decide) rfl) rfl rfl rfl ?_
  refine l_val (y_assign rfl) rfl rfl rfl ?_
  refine l_nil ?_
  refine q_then ?_
  refine c_seq ?_
  refine c_seq ?_
  -- region 2
  refine c_region ?_
  refine l_val (y_assign rfl) rfl rfl rfl ?_
  refine l_nil ?_
  refine q_then ?_
  refine c_block ?_
  refine c_loop (ι := Nat × List Nat × List GL) (φ := fun x => LetSt GL.gl (hG (decide (2 ≤ dir)) (IntKind.i32.wrap (s.tdiv 2))) (tG (decide (2 ≤ dir)) (IntKind.i32.wrap (s.tdiv 2))) st en gs (letL (hG (decide (2 ≤ dir)) (IntKind.i32.wrap (s.tdiv 2))) (tG (decide (2 ≤ dir)) (IntKind.i32.wrap (s.tdiv 2))) st en gs.length 0 ms gs) x.1 x.2.1 x.2.2) (L' := fun x => [(0, .pointer (some ⟨bO, o, none⟩)), (2, .bool st), (3, .bool en), (8, .bool (decide (2 ≤ dir))), (9, .int .i32 (IntKind.i32.wrap (s.tdiv 2))), (10, .int .i64 (x.1 : Int))]) (H' := fun x => (bO, B ad, 53) :: slH sv (encG x.2.2) 67) (fun x => x.2.1.length) (0, ms, gs) ⟨rfl, rfl, hms, rfl⟩ ⟨rfl, rfl, rfl, rfl, rfl, rfl, trivial⟩ (.cons .here .refl) ?_
  intro ⟨i, ms2, L⟩ hL
  simp only at hL ⊢
  refine c_seq ?_
  refine c_seq ?_
  -- region 3
  refine c_region ?_
  refine l_val (y_move rfl) rfl rfl rfl ?_
  refine l_val (y_move rfl) rfl rfl rfl ?_
  refine l_val (y_nilCheck rfl) rfl rfl rfl ?_
  refine l_val (y_fieldAddr fo_53_2 rfl) rfl rfl rfl ?_
  refine l_val (y_load1 ld_45 rfl m0 (hM.get rfl)) rfl rfl rfl ?_
  refine l_val (y_lenSv sl_45 rfl hok.nil) rfl rfl rfl ?_
  refine l_val (y_bin rfl rfl rfl rfl) rfl rfl rfl ?_
  refine l_nil ?_
  refine q_then ?_
  refine c_cond rfl (fun hc27 => ?_) (fun hc27 => ?_)
  · skip
    have hk2 : i < gs.length := by simp only [decide_eq_true_eq] at hc27; omega
    obtain ⟨m, r, rfl, hm, hm1, him, hsh2⟩ := sh_step hL.shp (by rw [List.length_map]; exact hk2)
    rw [List.length_map] at him
    obtain ⟨g, hg, hgm⟩ := at_map hL.shape hm
    have hLl := hL.len
    obtain ⟨M, hkM, rfl⟩ : ∃ M, i < M.length ∧ L = M.set i g := ⟨L, open_set hg⟩
    obtain _ | ⟨bG, sp, cap1⟩ := sv
    · exact absurd hok.2 (by simp only; omega)
    refine c_skip ?_
    refine q_then ?_
    refine c_block ?_
    refine c_seq ?_
    -- region 4
    refine c_region ?_
    refine l_val (y_move rfl) rfl rfl rfl ?_
    refine l_val (y_nilCheck rfl) rfl rfl rfl ?_
    refine l_val (y_fieldAddr fo_53_2 rfl) rfl rfl rfl ?_
    refine l_val (y_load1 ld_45 rfl m0 (hM.get rfl)) rfl rfl rfl ?_
    refine l_val (y_move rfl) rfl rfl rfl ?_
    refine l_val (y_indexAddrOwn es_45 rfl rfl hk2) rfl rfl rfl ?_
    refine l_val (y_loadN (vs := GL.cells g) ld_67 rfl m1 (encG_at (set_get hkM)) rfl) rfl rfl rfl ?_
    refine l_gives rfl rfl (g_alloc ze_67) rfl ?_
    intro b11 hb11
    refine l_does rfl rfl (g_storeN (vs := [_, _, _, _, _, _, _, _, _, _, _, _, _, _, _, _]) (cs' := [_, _, _, _, _, _, _, _, _, _, _, _, _, _, _, _]) sz_67 rfl rfl rfl rfl rfl rfl rfl .here) ?_
    intro _ _
    refine l_nil ?_
    refine q_then ?_
    refine c_seq ?_
    -- region 5
    refine c_region ?_
    refine l_val (y_move rfl) rfl rfl rfl ?_
    refine l_val (y_fieldAddr fo_67_11 rfl) rfl rfl rfl ?_
    refine l_val (y_load1 ld_3 rfl m0 rfl) rfl rfl rfl ?_
    refine l_val (y_bin rfl rfl rfl (fitN (m := i + m) (by omega) (by omega))) rfl rfl rfl ?_
    refine l_val (y_bin rfl rfl rfl (fitN (m := i + m - 1) (by omega) (by omega))) rfl rfl rfl ?_
    refine l_val (y_assign rfl) rfl rfl rfl ?_
    refine l_nil ?_
    refine q_then ?_
    refine c_seq ?_
    refine c_seq ?_
    -- region 6
    refine c_cut (ι := Unit) (φ := fun _ => True) (L' := fun _ => [(0, .pointer (some ⟨bO, o, none⟩)), (2, .bool st), (3, .bool en), (8, .bool (decide (2 ≤ dir))), (9, .int .i32 (IntKind.i32.wrap (s.tdiv 2))), (10, .int .i64 (i : Int)), (11, .pointer (some ⟨b11, 0, none⟩)), (12, .int .i64 ((i + m - 1 : Nat) : Int)), (45, .bool (decide (0 < i) || !st))]) (H' := fun _ => (b11, GL.cells g, 67) :: (bO, B ad, 53) :: (bG, encG (M.set i g) ++ sp, 67) :: []) ?_ ?_
    · skip
      refine c_region ?_
      refine l_val (y_move rfl) rfl rfl rfl ?_
      refine l_val (y_bin rfl rfl rfl rfl) rfl rfl rfl ?_
      refine l_val (y_move rfl) rfl rfl rfl ?_
      refine l_split (t := 42) rfl rfl (fun hs42 => ?_) (fun hs42 => ?_)
      · skip
        refine l_not rfl rfl rfl rfl ?_
        refine l_not rfl rfl rfl rfl ?_
        refine l_val (y_pick rfl rfl rfl) rfl rfl rfl ?_
        refine l_nil ?_
        exact q_cut () trivial ⟨rfl, rfl, rfl, rfl, rfl, rfl, rfl, rfl, (by first | exact someB (orT hs42) | exact someB (orF hs42)), trivial⟩ (.cons .here (.cons .here (.cons .here .nil)))
      · skip
        refine l_want rfl rfl ?_
        refine l_val (y_move rfl) rfl rfl rfl ?_
        refine l_want rfl rfl ?_
        refine l_val (y_not rfl) rfl rfl rfl ?_
        refine l_val (y_pick rfl rfl rfl) rfl rfl rfl ?_
        refine l_nil ?_
        exact q_cut () trivial ⟨rfl, rfl, rfl, rfl, rfl, rfl, rfl, rfl, (by first | exact someB (orT hs42) | exact someB (orF hs42)), trivial⟩ (.cons .here (.cons .here (.cons .here .nil)))
    intro _ _
    refine q_then ?_
    refine c_cut (ι := List GL) (φ := fun K => K = updB (decide (0 < i) || !st) (hG (decide (2 ≤ dir)) (IntKind.i32.wrap (s.tdiv 2))) (M.set i g) i) (L' := fun _ => [(0, .pointer (some ⟨bO, o, none⟩)), (2, .bool st), (3, .bool en), (8, .bool (decide (2 ≤ dir))), (9, .int .i32 (IntKind.i32.wrap (s.tdiv 2))), (10, .int .i64 (i : Int)), (11, .pointer (some ⟨b11, 0, none⟩)), (12, .int .i64 ((i + m - 1 : Nat) : Int))]) (H' := fun K => (b11, GL.cells g, 67) :: (bO, B ad, 53) :: (bG, encG (K) ++ sp, 67) :: []) ?_ ?_
    · skip
      refine c_cond rfl (fun hc45 => ?_) (fun hc45 => ?_)
      · skip
        refine c_seq ?_
        -- region 7
        refine c_region ?_
        refine l_val (y_move rfl) rfl rfl rfl ?_
        refine l_val (y_nilCheck rfl) rfl rfl rfl ?_
        refine l_val (y_fieldAddr fo_53_2 rfl) rfl rfl rfl ?_
        refine l_val (y_load1 ld_45 rfl m1 (hM.get rfl)) rfl rfl rfl ?_
        refine l_val (y_move rfl) rfl rfl rfl ?_
        refine l_val (y_indexAddrOwn es_45 rfl rfl hk2) rfl rfl rfl ?_
        refine l_val (y_fieldAddr fo_67_4 rfl) rfl rfl rfl ?_
        refine l_val (y_load1 ld_44 rfl m2 (gget hkM rfl)) rfl rfl rfl ?_
        refine l_val (y_move rfl) rfl rfl rfl ?_
        refine l_val (y_bin rfl rfl rfl rfl) rfl rfl rfl ?_
        refine l_val (y_indexAddrOwn es_45 rfl rfl hk2) rfl rfl rfl ?_
        refine l_val (y_fieldAddr fo_67_4 rfl) rfl rfl rfl ?_
        refine l_does rfl rfl (g_store1 (cs' := encG ((M).set i ({ g with ad := IntKind.i32.wrap ((g).ad + (IntKind.i32.wrap (s.tdiv 2))) } : GL)) ++ sp) sz_44 rfl rfl rfl (gfit hkM rfl) rfl (gset (x := g) (y := { g with ad := IntKind.i32.wrap ((g).ad + (IntKind.i32.wrap (s.tdiv 2))) }) hkM rfl rfl) (.there (.there .here))) ?_
        intro _ _
        refine l_nil ?_
        refine q_then ?_
        refine c_seq ?_
        refine c_seq ?_
        -- region 8
        refine c_region ?_
        refine l_val (y_move rfl) rfl rfl rfl ?_
        refine l_nil ?_
        refine q_then ?_
        refine c_cond rfl (fun hc58 => ?_) (fun hc58 => ?_)
        · skip
          refine c_seq ?_
          -- region 9
          refine c_region ?_
          refine l_val (y_move rfl) rfl rfl rfl ?_
          refine l_val (y_nilCheck rfl) rfl rfl rfl ?_
          refine l_val (y_fieldAddr fo_53_2 rfl) rfl rfl rfl ?_
          refine l_val (y_load1 ld_45 rfl m1 (hM.get rfl)) rfl rfl rfl ?_
          refine l_val (y_move rfl) rfl rfl rfl ?_
          refine l_val (y_indexAddrOwn es_45 rfl rfl hk2) rfl rfl rfl ?_
          refine l_val (y_fieldAddr fo_67_6 rfl) rfl rfl rfl ?_
          refine l_val (y_load1 ld_44 rfl m2 (gget hkM rfl)) rfl rfl rfl ?_
          refine l_val (y_move rfl) rfl rfl rfl ?_
          refine l_val (y_bin rfl rfl rfl rfl) rfl rfl rfl ?_
          refine l_val (y_indexAddrOwn es_45 rfl rfl hk2) rfl rfl rfl ?_
          refine l_val (y_fieldAddr fo_67_6 rfl) rfl rfl rfl ?_
          refine l_does rfl rfl (g_store1 (cs' := encG ((M).set i ({ { g with ad := IntKind.i32.wrap ((g).ad + (IntKind.i32.wrap (s.tdiv 2))) } with ya := IntKind.i32.wrap (({ g with ad := IntKind.i32.wrap ((g).ad + (IntKind.i32.wrap (s.tdiv 2))) }).ya + (IntKind.i32.wrap (s.tdiv 2))) } : GL)) ++ sp) sz_44 rfl rfl rfl (gfit hkM rfl) rfl (gset (x := { g with ad := IntKind.i32.wrap ((g).ad + (IntKind.i32.wrap (s.tdiv 2))) }) (y := { { g with ad := IntKind.i32.wrap ((g).ad + (IntKind.i32.wrap (s.tdiv 2))) } with ya := IntKind.i32.wrap (({ g with ad := IntKind.i32.wrap ((g).ad + (IntKind.i32.wrap (s.tdiv 2))) }).ya + (IntKind.i32.wrap (s.tdiv 2))) }) hkM rfl rfl) (.there (.there .here))) ?_
          intro _ _
          refine l_nil ?_
          refine q_then ?_
          -- region 10
          refine c_region ?_
          refine l_val (y_move rfl) rfl rfl rfl ?_
          refine l_val (y_nilCheck rfl) rfl rfl rfl ?_
          refine l_val (y_fieldAddr fo_53_2 rfl) rfl rfl rfl ?_
          refine l_val (y_load1 ld_45 rfl m1 (hM.get rfl)) rfl rfl rfl ?_
          refine l_val (y_move rfl) rfl rfl rfl ?_
          refine l_val (y_indexAddrOwn es_45 rfl rfl hk2) rfl rfl rfl ?_
          refine l_val (y_fieldAddr fo_67_8 rfl) rfl rfl rfl ?_
          refine l_val (y_load1 ld_44 rfl m2 (gget hkM rfl)) rfl rfl rfl ?_
          refine l_val (y_move rfl) rfl rfl rfl ?_
          refine l_val (y_bin rfl rfl rfl rfl) rfl rfl rfl ?_
          refine l_val (y_indexAddrOwn es_45 rfl rfl hk2) rfl rfl rfl ?_
          refine l_val (y_fieldAddr fo_67_8 rfl) rfl rfl rfl ?_
          refine l_does rfl rfl (g_store1 (cs' := encG ((M).set i ({ { { g with ad := IntKind.i32.wrap ((g).ad + (IntKind.i32.wrap (s.tdiv 2))) } with ya := IntKind.i32.wrap (({ g with ad := IntKind.i32.wrap ((g).ad + (IntKind.i32.wrap (s.tdiv 2))) }).ya + (IntKind.i32.wrap (s.tdiv 2))) } with yo := IntKind.i32.wrap (({ { g with ad := IntKind.i32.wrap ((g).ad + (IntKind.i32.wrap (s.tdiv 2))) } with ya := IntKind.i32.wrap (({ g with ad := IntKind.i32.wrap ((g).ad + (IntKind.i32.wrap (s.tdiv 2))) }).ya + (IntKind.i32.wrap (s.tdiv 2))) }).yo + (IntKind.i32.wrap (s.tdiv 2))) } : GL)) ++ sp) sz_44 rfl rfl rfl (gfit hkM rfl) rfl (gset (x := { { g with ad := IntKind.i32.wrap ((g).ad + (IntKind.i32.wrap (s.tdiv 2))) } with ya := IntKind.i32.wrap (({ g with ad := IntKind.i32.wrap ((g).ad + (IntKind.i32.wrap (s.tdiv 2))) }).ya + (IntKind.i32.wrap (s.tdiv 2))) }) (y := { { { g with ad := IntKind.i32.wrap ((g).ad + (IntKind.i32.wrap (s.tdiv 2))) } with ya := IntKind.i32.wrap (({ g with ad := IntKind.i32.wrap ((g).ad + (IntKind.i32.wrap (s.tdiv 2))) }).ya + (IntKind.i32.wrap (s.tdiv 2))) } with yo := IntKind.i32.wrap (({ { g with ad := IntKind.i32.wrap ((g).ad + (IntKind.i32.wrap (s.tdiv 2))) } with ya := IntKind.i32.wrap (({ g with ad := IntKind.i32.wrap ((g).ad + (IntKind.i32.wrap (s.tdiv 2))) }).ya + (IntKind.i32.wrap (s.tdiv 2))) }).yo + (IntKind.i32.wrap (s.tdiv 2))) }) hkM rfl rfl) (.there (.there .here))) ?_
          intro _ _
          refine l_nil ?_
          refine q_then ?_
          -- region 13
          refine c_region ?_
          refine l_val (y_move rfl) rfl rfl rfl ?_
          refine l_val (y_nilCheck rfl) rfl rfl rfl ?_
          refine l_val (y_fieldAddr fo_53_2 rfl) rfl rfl rfl ?_
          refine l_val (y_load1 ld_45 rfl m1 (hM.get rfl)) rfl rfl rfl ?_
          refine l_val (y_move rfl) rfl rfl rfl ?_
          refine l_val (y_indexAddrOwn es_45 rfl rfl hk2) rfl rfl rfl ?_
          refine l_val (y_fieldAddr fo_67_14 rfl) rfl rfl rfl ?_
          refine l_val (y_load1 ld_44 rfl m2 (gget hkM rfl)) rfl rfl rfl ?_
          refine l_val (y_move rfl) rfl rfl rfl ?_
          refine l_val (y_bin rfl rfl rfl rfl) rfl rfl rfl ?_
          refine l_val (y_indexAddrOwn es_45 rfl rfl hk2) rfl rfl rfl ?_
          refine l_val (y_fieldAddr fo_67_14 rfl) rfl rfl rfl ?_
          refine l_does rfl rfl (g_store1 (cs' := encG ((M).set i ({ { { { g with ad := IntKind.i32.wrap ((g).ad + (IntKind.i32.wrap (s.tdiv 2))) } with ya := IntKind.i32.wrap (({ g with ad := IntKind.i32.wrap ((g).ad + (IntKind.i32.wrap (s.tdiv 2))) }).ya + (IntKind.i32.wrap (s.tdiv 2))) } with yo := IntKind.i32.wrap (({ { g with ad := IntKind.i32.wrap ((g).ad + (IntKind.i32.wrap (s.tdiv 2))) } with ya := IntKind.i32.wrap (({ g with ad := IntKind.i32.wrap ((g).ad + (IntKind.i32.wrap (s.tdiv 2))) }).ya + (IntKind.i32.wrap (s.tdiv 2))) }).yo + (IntKind.i32.wrap (s.tdiv 2))) } with sl := IntKind.i32.wrap (({ { { g with ad := IntKind.i32.wrap ((g).ad + (IntKind.i32.wrap (s.tdiv 2))) } with ya := IntKind.i32.wrap (({ g with ad := IntKind.i32.wrap ((g).ad + (IntKind.i32.wrap (s.tdiv 2))) }).ya + (IntKind.i32.wrap (s.tdiv 2))) } with yo := IntKind.i32.wrap (({ { g with ad := IntKind.i32.wrap ((g).ad + (IntKind.i32.wrap (s.tdiv 2))) } with ya := IntKind.i32.wrap (({ g with ad := IntKind.i32.wrap ((g).ad + (IntKind.i32.wrap (s.tdiv 2))) }).ya + (IntKind.i32.wrap (s.tdiv 2))) }).yo + (IntKind.i32.wrap (s.tdiv 2))) }).sl + (IntKind.i32.wrap (s.tdiv 2))) } : GL)) ++ sp) sz_44 rfl rfl rfl (gfit hkM rfl) rfl (gset (x := { { { g with ad := IntKind.i32.wrap ((g).ad + (IntKind.i32.wrap (s.tdiv 2))) } with ya := IntKind.i32.wrap (({ g with ad := IntKind.i32.wrap ((g).ad + (IntKind.i32.wrap (s.tdiv 2))) }).ya + (IntKind.i32.wrap (s.tdiv 2))) } with yo := IntKind.i32.wrap (({ { g with ad := IntKind.i32.wrap ((g).ad + (IntKind.i32.wrap (s.tdiv 2))) } with ya := IntKind.i32.wrap (({ g with ad := IntKind.i32.wrap ((g).ad + (IntKind.i32.wrap (s.tdiv 2))) }).ya + (IntKind.i32.wrap (s.tdiv 2))) }).yo + (IntKind.i32.wrap (s.tdiv 2))) }) (y := { { { { g with ad := IntKind.i32.wrap ((g).ad + (IntKind.i32.wrap (s.tdiv 2))) } with ya := IntKind.i32.wrap (({ g with ad := IntKind.i32.wrap ((g).ad + (IntKind.i32.wrap (s.tdiv 2))) }).ya + (IntKind.i32.wrap (s.tdiv 2))) } with yo := IntKind.i32.wrap (({ { g with ad := IntKind.i32.wrap ((g).ad + (IntKind.i32.wrap (s.tdiv 2))) } with ya := IntKind.i32.wrap (({ g with ad := IntKind.i32.wrap ((g).ad + (IntKind.i32.wrap (s.tdiv 2))) }).ya + (IntKind.i32.wrap (s.tdiv 2))) }).yo + (IntKind.i32.wrap (s.tdiv 2))) } with sl := IntKind.i32.wrap (({ { { g with ad := IntKind.i32.wrap ((g).ad + (IntKind.i32.wrap (s.tdiv 2))) } with ya := IntKind.i32.wrap (({ g with ad := IntKind.i32.wrap ((g).ad + (IntKind.i32.wrap (s.tdiv 2))) }).ya + (IntKind.i32.wrap (s.tdiv 2))) } with yo := IntKind.i32.wrap (({ { g with ad := IntKind.i32.wrap ((g).ad + (IntKind.i32.wrap (s.tdiv 2))) } with ya := IntKind.i32.wrap (({ g with ad := IntKind.i32.wrap ((g).ad + (IntKind.i32.wrap (s.tdiv 2))) }).ya + (IntKind.i32.wrap (s.tdiv 2))) }).yo + (IntKind.i32.wrap (s.tdiv 2))) }).sl + (IntKind.i32.wrap (s.tdiv 2))) }) hkM rfl rfl) (.there (.there .here))) ?_
          intro _ _
          refine l_nil ?_
          exact q_cut (M.set i ({ { { { g with ad := IntKind.i32.wrap ((g).ad + (IntKind.i32.wrap (s.tdiv 2))) } with ya := IntKind.i32.wrap (({ g with ad := IntKind.i32.wrap ((g).ad + (IntKind.i32.wrap (s.tdiv 2))) }).ya + (IntKind.i32.wrap (s.tdiv 2))) } with yo := IntKind.i32.wrap (({ { g with ad := IntKind.i32.wrap ((g).ad + (IntKind.i32.wrap (s.tdiv 2))) } with ya := IntKind.i32.wrap (({ g with ad := IntKind.i32.wrap ((g).ad + (IntKind.i32.wrap (s.tdiv 2))) }).ya + (IntKind.i32.wrap (s.tdiv 2))) }).yo + (IntKind.i32.wrap (s.tdiv 2))) } with sl := IntKind.i32.wrap (({ { { g with ad := IntKind.i32.wrap ((g).ad + (IntKind.i32.wrap (s.tdiv 2))) } with ya := IntKind.i32.wrap (({ g with ad := IntKind.i32.wrap ((g).ad + (IntKind.i32.wrap (s.tdiv 2))) }).ya + (IntKind.i32.wrap (s.tdiv 2))) } with yo := IntKind.i32.wrap (({ { g with ad := IntKind.i32.wrap ((g).ad + (IntKind.i32.wrap (s.tdiv 2))) } with ya := IntKind.i32.wrap (({ g with ad := IntKind.i32.wrap ((g).ad + (IntKind.i32.wrap (s.tdiv 2))) }).ya + (IntKind.i32.wrap (s.tdiv 2))) }).yo + (IntKind.i32.wrap (s.tdiv 2))) }).sl + (IntKind.i32.wrap (s.tdiv 2))) })) (updB_t hc45 hkM (by rw [hc58]; rfl)) ⟨rfl, rfl, rfl, rfl, rfl, rfl, rfl, rfl, trivial⟩ (.cons .here (.cons .here (.cons .here .nil)))
        · skip
          refine c_seq ?_
          -- region 11
          refine c_region ?_
          refine l_val (y_move rfl) rfl rfl rfl ?_
          refine l_val (y_nilCheck rfl) rfl rfl rfl ?_
          refine l_val (y_fieldAddr fo_53_2 rfl) rfl rfl rfl ?_
          refine l_val (y_load1 ld_45 rfl m1 (hM.get rfl)) rfl rfl rfl ?_
          refine l_val (y_move rfl) rfl rfl rfl ?_
          refine l_val (y_indexAddrOwn es_45 rfl rfl hk2) rfl rfl rfl ?_
          refine l_val (y_fieldAddr fo_67_5 rfl) rfl rfl rfl ?_
          refine l_val (y_load1 ld_44 rfl m2 (gget hkM rfl)) rfl rfl rfl ?_
          refine l_val (y_move rfl) rfl rfl rfl ?_
          refine l_val (y_bin rfl rfl rfl rfl) rfl rfl rfl ?_
          refine l_val (y_indexAddrOwn es_45 rfl rfl hk2) rfl rfl rfl ?_
          refine l_val (y_fieldAddr fo_67_5 rfl) rfl rfl rfl ?_
          refine l_does rfl rfl (g_store1 (cs' := encG ((M).set i ({ { g with ad := IntKind.i32.wrap ((g).ad + (IntKind.i32.wrap (s.tdiv 2))) } with xa := IntKind.i32.wrap (({ g with ad := IntKind.i32.wrap ((g).ad + (IntKind.i32.wrap (s.tdiv 2))) }).xa + (IntKind.i32.wrap (s.tdiv 2))) } : GL)) ++ sp) sz_44 rfl rfl rfl (gfit hkM rfl) rfl (gset (x := { g with ad := IntKind.i32.wrap ((g).ad + (IntKind.i32.wrap (s.tdiv 2))) }) (y := { { g with ad := IntKind.i32.wrap ((g).ad + (IntKind.i32.wrap (s.tdiv 2))) } with xa := IntKind.i32.wrap (({ g with ad := IntKind.i32.wrap ((g).ad + (IntKind.i32.wrap (s.tdiv 2))) }).xa + (IntKind.i32.wrap (s.tdiv 2))) }) hkM rfl rfl) (.there (.there .here))) ?_
          intro _ _
          refine l_nil ?_
          refine q_then ?_
          -- region 12
          refine c_region ?_
          refine l_val (y_move rfl) rfl rfl rfl ?_
          refine l_val (y_nilCheck rfl) rfl rfl rfl ?_
          refine l_val (y_fieldAddr fo_53_2 rfl) rfl rfl rfl ?_
          refine l_val (y_load1 ld_45 rfl m1 (hM.get rfl)) rfl rfl rfl ?_
          refine l_val (y_move rfl) rfl rfl rfl ?_
          refine l_val (y_indexAddrOwn es_45 rfl rfl hk2) rfl rfl rfl ?_
          refine l_val (y_fieldAddr fo_67_7 rfl) rfl rfl rfl ?_
          refine l_val (y_load1 ld_44 rfl m2 (gget hkM rfl)) rfl rfl rfl ?_
          refine l_val (y_move rfl) rfl rfl rfl ?_
          refine l_val (y_bin rfl rfl rfl rfl) rfl rfl rfl ?_
          refine l_val (y_indexAddrOwn es_45 rfl rfl hk2) rfl rfl rfl ?_
          refine l_val (y_fieldAddr fo_67_7 rfl) rfl rfl rfl ?_
          refine l_does rfl rfl (g_store1 (cs' := encG ((M).set i ({ { { g with ad := IntKind.i32.wrap ((g).ad + (IntKind.i32.wrap (s.tdiv 2))) } with xa := IntKind.i32.wrap (({ g with ad := IntKind.i32.wrap ((g).ad + (IntKind.i32.wrap (s.tdiv 2))) }).xa + (IntKind.i32.wrap (s.tdiv 2))) } with xo := IntKind.i32.wrap (({ { g with ad := IntKind.i32.wrap ((g).ad + (IntKind.i32.wrap (s.tdiv 2))) } with xa := IntKind.i32.wrap (({ g with ad := IntKind.i32.wrap ((g).ad + (IntKind.i32.wrap (s.tdiv 2))) }).xa + (IntKind.i32.wrap (s.tdiv 2))) }).xo + (IntKind.i32.wrap (s.tdiv 2))) } : GL)) ++ sp) sz_44 rfl rfl rfl (gfit hkM rfl) rfl (gset (x := { { g with ad := IntKind.i32.wrap ((g).ad + (IntKind.i32.wrap (s.tdiv 2))) } with xa := IntKind.i32.wrap (({ g with ad := IntKind.i32.wrap ((g).ad + (IntKind.i32.wrap (s.tdiv 2))) }).xa + (IntKind.i32.wrap (s.tdiv 2))) }) (y := { { { g with ad := IntKind.i32.wrap ((g).ad + (IntKind.i32.wrap (s.tdiv 2))) } with xa := IntKind.i32.wrap (({ g with ad := IntKind.i32.wrap ((g).ad + (IntKind.i32.wrap (s.tdiv 2))) }).xa + (IntKind.i32.wrap (s.tdiv 2))) } with xo := IntKind.i32.wrap (({ { g with ad := IntKind.i32.wrap ((g).ad + (IntKind.i32.wrap (s.tdiv 2))) } with xa := IntKind.i32.wrap (({ g with ad := IntKind.i32.wrap ((g).ad + (IntKind.i32.wrap (s.tdiv 2))) }).xa + (IntKind.i32.wrap (s.tdiv 2))) }).xo + (IntKind.i32.wrap (s.tdiv 2))) }) hkM rfl rfl) (.there (.there .here))) ?_
          intro _ _
          refine l_nil ?_
          refine q_then ?_
          -- region 13
          refine c_region ?_
          refine l_val (y_move rfl) rfl rfl rfl ?_
          refine l_val (y_nilCheck rfl) rfl rfl rfl ?_
          refine l_val (y_fieldAddr fo_53_2 rfl) rfl rfl rfl ?_
          refine l_val (y_load1 ld_45 rfl m1 (hM.get rfl)) rfl rfl rfl ?_
          refine l_val (y_move rfl) rfl rfl rfl ?_
          refine l_val (y_indexAddrOwn es_45 rfl rfl hk2) rfl rfl rfl ?_
          refine l_val (y_fieldAddr fo_67_14 rfl) rfl rfl rfl ?_
          refine l_val (y_load1 ld_44 rfl m2 (gget hkM rfl)) rfl rfl rfl ?_
          refine l_val (y_move rfl) rfl rfl rfl ?_
          refine l_val (y_bin rfl rfl rfl rfl) rfl rfl rfl ?_
          refine l_val (y_indexAddrOwn es_45 rfl rfl hk2) rfl rfl rfl ?_
          refine l_val (y_fieldAddr fo_67_14 rfl) rfl rfl rfl ?_
          refine l_does rfl rfl (g_store1 (cs' := encG ((M).set i ({ { { { g with ad := IntKind.i32.wrap ((g).ad + (IntKind.i32.wrap (s.tdiv 2))) } with xa := IntKind.i32.wrap (({ g with ad := IntKind.i32.wrap ((g).ad + (IntKind.i32.wrap (s.tdiv 2))) }).xa + (IntKind.i32.wrap (s.tdiv 2))) } with xo := IntKind.i32.wrap (({ { g with ad := IntKind.i32.wrap ((g).ad + (IntKind.i32.wrap (s.tdiv 2))) } with xa := IntKind.i32.wrap (({ g with ad := IntKind.i32.wrap ((g).ad + (IntKind.i32.wrap (s.tdiv 2))) }).xa + (IntKind.i32.wrap (s.tdiv 2))) }).xo + (IntKind.i32.wrap (s.tdiv 2))) } with sl := IntKind.i32.wrap (({ { { g with ad := IntKind.i32.wrap ((g).ad + (IntKind.i32.wrap (s.tdiv 2))) } with xa := IntKind.i32.wrap (({ g with ad := IntKind.i32.wrap ((g).ad + (IntKind.i32.wrap (s.tdiv 2))) }).xa + (IntKind.i32.wrap (s.tdiv 2))) } with xo := IntKind.i32.wrap (({ { g with ad := IntKind.i32.wrap ((g).ad + (IntKind.i32.wrap (s.tdiv 2))) } with xa := IntKind.i32.wrap (({ g with ad := IntKind.i32.wrap ((g).ad + (IntKind.i32.wrap (s.tdiv 2))) }).xa + (IntKind.i32.wrap (s.tdiv 2))) }).xo + (IntKind.i32.wrap (s.tdiv 2))) }).sl + (IntKind.i32.wrap (s.tdiv 2))) } : GL)) ++ sp) sz_44 rfl rfl rfl (gfit hkM rfl) rfl (gset (x := { { { g with ad := IntKind.i32.wrap ((g).ad + (IntKind.i32.wrap (s.tdiv 2))) } with xa := IntKind.i32.wrap (({ g with ad := IntKind.i32.wrap ((g).ad + (IntKind.i32.wrap (s.tdiv 2))) }).xa + (IntKind.i32.wrap (s.tdiv 2))) } with xo := IntKind.i32.wrap (({ { g with ad := IntKind.i32.wrap ((g).ad + (IntKind.i32.wrap (s.tdiv 2))) } with xa := IntKind.i32.wrap (({ g with ad := IntKind.i32.wrap ((g).ad + (IntKind.i32.wrap (s.tdiv 2))) }).xa + (IntKind.i32.wrap (s.tdiv 2))) }).xo + (IntKind.i32.wrap (s.tdiv 2))) }) (y := { { { { g with ad := IntKind.i32.wrap ((g).ad + (IntKind.i32.wrap (s.tdiv 2))) } with xa := IntKind.i32.wrap (({ g with ad := IntKind.i32.wrap ((g).ad + (IntKind.i32.wrap (s.tdiv 2))) }).xa + (IntKind.i32.wrap (s.tdiv 2))) } with xo := IntKind.i32.wrap (({ { g with ad := IntKind.i32.wrap ((g).ad + (IntKind.i32.wrap (s.tdiv 2))) } with xa := IntKind.i32.wrap (({ g with ad := IntKind.i32.wrap ((g).ad + (IntKind.i32.wrap (s.tdiv 2))) }).xa + (IntKind.i32.wrap (s.tdiv 2))) }).xo + (IntKind.i32.wrap (s.tdiv 2))) } with sl := IntKind.i32.wrap (({ { { g with ad := IntKind.i32.wrap ((g).ad + (IntKind.i32.wrap (s.tdiv 2))) } with xa := IntKind.i32.wrap (({ g with ad := IntKind.i32.wrap ((g).ad + (IntKind.i32.wrap (s.tdiv 2))) }).xa + (IntKind.i32.wrap (s.tdiv 2))) } with xo := IntKind.i32.wrap (({ { g with ad := IntKind.i32.wrap ((g).ad + (IntKind.i32.wrap (s.tdiv 2))) } with xa := IntKind.i32.wrap (({ g with ad := IntKind.i32.wrap ((g).ad + (IntKind.i32.wrap (s.tdiv 2))) }).xa + (IntKind.i32.wrap (s.tdiv 2))) }).xo + (IntKind.i32.wrap (s.tdiv 2))) }).sl + (IntKind.i32.wrap (s.tdiv 2))) }) hkM rfl rfl) (.there (.there .here))) ?_
          intro _ _
          refine l_nil ?_
          exact q_cut (M.set i ({ { { { g with ad := IntKind.i32.wrap ((g).ad + (IntKind.i32.wrap (s.tdiv 2))) } with xa := IntKind.i32.wrap (({ g with ad := IntKind.i32.wrap ((g).ad + (IntKind.i32.wrap (s.tdiv 2))) }).xa + (IntKind.i32.wrap (s.tdiv 2))) } with xo := IntKind.i32.wrap (({ { g with ad := IntKind.i32.wrap ((g).ad + (IntKind.i32.wrap (s.tdiv 2))) } with xa := IntKind.i32.wrap (({ g with ad := IntKind.i32.wrap ((g).ad + (IntKind.i32.wrap (s.tdiv 2))) }).xa + (IntKind.i32.wrap (s.tdiv 2))) }).xo + (IntKind.i32.wrap (s.tdiv 2))) } with sl := IntKind.i32.wrap (({ { { g with ad := IntKind.i32.wrap ((g).ad + (IntKind.i32.wrap (s.tdiv 2))) } with xa := IntKind.i32.wrap (({ g with ad := IntKind.i32.wrap ((g).ad + (IntKind.i32.wrap (s.tdiv 2))) }).xa + (IntKind.i32.wrap (s.tdiv 2))) } with xo := IntKind.i32.wrap (({ { g with ad := IntKind.i32.wrap ((g).ad + (IntKind.i32.wrap (s.tdiv 2))) } with xa := IntKind.i32.wrap (({ g with ad := IntKind.i32.wrap ((g).ad + (IntKind.i32.wrap (s.tdiv 2))) }).xa + (IntKind.i32.wrap (s.tdiv 2))) }).xo + (IntKind.i32.wrap (s.tdiv 2))) }).sl + (IntKind.i32.wrap (s.tdiv 2))) })) (updB_t hc45 hkM (by rw [hc58]; rfl)) ⟨rfl, rfl, rfl, rfl, rfl, rfl, rfl, rfl, trivial⟩ (.cons .here (.cons .here (.cons .here .nil)))
      · skip
        refine c_skip ?_
        exact q_cut (M.set i g) (updB_f hc45) ⟨rfl, rfl, rfl, rfl, rfl, rfl, rfl, rfl, trivial⟩ (.cons .here (.cons .here (.cons .here .nil)))
    intro K hK
    obtain ⟨y, hy⟩ := some_at (l := K) (k := i + m - 1) (by rw [hK, updB_len]; omega)
    obtain ⟨K2, hkK, rfl⟩ : ∃ M, i + m - 1 < M.length ∧ K = M.set (i + m - 1) y := ⟨K, open_set hy⟩
    refine q_then ?_
    refine c_seq ?_
    -- region 14
    refine c_drawH mixed rfl ?_
    refine d_val (i := 0) rfl (by kernel_rfl) (by kernel_rfl) (by kernel_rfl) (y_move rfl) rfl (no_guard rfl) rfl (fun _ _ _ h => h) ?_
    refine d_val (i := 1) rfl (by kernel_rfl) (by kernel_rfl) (by kernel_rfl) (y_fieldAddr fo_67_11 rfl) rfl (no_guard rfl) rfl (fun _ _ _ h => h) ?_
    refine d_val (i := 2) rfl (by kernel_rfl) (by kernel_rfl) (by kernel_rfl) (y_load1 ld_3 rfl m0 rfl) rfl (no_guard rfl) rfl (fun _ _ _ h => h) ?_
    refine d_val (i := 3) rfl (by kernel_rfl) (by kernel_rfl) (by kernel_rfl) (y_bin rfl rfl rfl (fitN (m := i + m) (by omega) (by omega))) rfl (no_guard rfl) rfl (fun _ _ _ h => h) ?_
    refine d_val (i := 4) rfl (by kernel_rfl) (by kernel_rfl) (by kernel_rfl) (y_move rfl) rfl (no_guard rfl) rfl (fun _ _ _ h => h) ?_
    refine d_val (i := 5) rfl (by kernel_rfl) (by kernel_rfl) (by kernel_rfl) (y_nilCheck rfl) rfl (no_guard rfl) rfl (fun _ _ _ h => h) ?_
    refine d_val (i := 6) rfl (by kernel_rfl) (by kernel_rfl) (by kernel_rfl) (y_fieldAddr fo_53_2 rfl) rfl (no_guard rfl) rfl (fun _ _ _ h => h) ?_
    refine d_val (i := 7) rfl (by kernel_rfl) (by kernel_rfl) (by kernel_rfl) (y_load1 ld_45 rfl m1 (hM.get rfl)) rfl (no_guard rfl) rfl (fun _ _ _ h => h) ?_
    refine d_val (i := 8) rfl (by kernel_rfl) (by kernel_rfl) (by kernel_rfl) (y_lenSv (sv := some (bG, sp, cap1)) sl_45 rfl hok.nil) rfl (no_guard rfl) rfl (fun _ _ _ h => h) ?_
    refine d_val (i := 9) rfl (by kernel_rfl) (by kernel_rfl) (by kernel_rfl) (y_bin rfl rfl rfl rfl) rfl (no_guard rfl) rfl (fun _ _ _ h => h) ?_
    refine d_val (i := 10) rfl (by kernel_rfl) (by kernel_rfl) (by kernel_rfl) (y_assign rfl) rfl (no_guard rfl) rfl (fun _ _ _ h => h) ?_
    refine d_end (by kernel_rfl) (.cons .here (.cons .here (.cons .here .nil))) ?_
    refine q_then ?_
    refine c_seq ?_
    refine c_seq ?_
    -- region 15
    refine c_cut (ι := Unit) (φ := fun _ => True) (L' := fun _ => [(0, .pointer (some ⟨bO, o, none⟩)), (2, .bool st), (3, .bool en), (8, .bool (decide (2 ≤ dir))), (9, .int .i32 (IntKind.i32.wrap (s.tdiv 2))), (10, .int .i64 (i : Int)), (11, .pointer (some ⟨b11, 0, none⟩)), (12, .int .i64 ((i + m - 1 : Nat) : Int)), (134, .bool (decide (i + m < gs.length) || !en))]) (H' := fun _ => (b11, GL.cells g, 67) :: (bO, B ad, 53) :: (bG, encG (K2.set (i + m - 1) y) ++ sp, 67) :: []) ?_ ?_
    · skip
      refine c_region ?_
      refine l_val (y_move rfl) rfl rfl rfl ?_
      refine l_val (y_not rfl) rfl rfl rfl ?_
      refine l_val (y_move rfl) rfl rfl rfl ?_
      refine l_split (t := 131) rfl rfl (fun hs131 => ?_) (fun hs131 => ?_)
      · skip
        refine l_not rfl rfl rfl rfl ?_
        refine l_not rfl rfl rfl rfl ?_
        refine l_val (y_pick rfl rfl rfl) rfl rfl rfl ?_
        refine l_nil ?_
        exact q_cut () trivial ⟨rfl, rfl, rfl, rfl, rfl, rfl, rfl, rfl, (by first | exact someB (endT hs131 geN) | exact someB (endF hs131 geN)), trivial⟩ (.cons .here (.cons .here (.cons .here .nil)))
      · skip
        refine l_want rfl rfl ?_
        refine l_val (y_move rfl) rfl rfl rfl ?_
        refine l_want rfl rfl ?_
        refine l_val (y_not rfl) rfl rfl rfl ?_
        refine l_val (y_pick rfl rfl rfl) rfl rfl rfl ?_
        refine l_nil ?_
        exact q_cut () trivial ⟨rfl, rfl, rfl, rfl, rfl, rfl, rfl, rfl, (by first | exact someB (endT hs131 geN) | exact someB (endF hs131 geN)), trivial⟩ (.cons .here (.cons .here (.cons .here .nil)))
    intro _ _
    refine q_then ?_
    refine c_cut (ι := List GL) (φ := fun K3 => K3 = updB (decide (i + m < gs.length) || !en) (tG (decide (2 ≤ dir)) (IntKind.i32.wrap (s.tdiv 2))) (K2.set (i + m - 1) y) (i + m - 1)) (L' := fun _ => [(0, .pointer (some ⟨bO, o, none⟩)), (2, .bool st), (3, .bool en), (8, .bool (decide (2 ≤ dir))), (9, .int .i32 (IntKind.i32.wrap (s.tdiv 2))), (10, .int .i64 (i : Int)), (11, .pointer (some ⟨b11, 0, none⟩)), (12, .int .i64 ((i + m - 1 : Nat) : Int))]) (H' := fun K3 => (b11, GL.cells g, 67) :: (bO, B ad, 53) :: (bG, encG (K3) ++ sp, 67) :: []) ?_ ?_
    · skip
      refine c_cond rfl (fun hc134 => ?_) (fun hc134 => ?_)
      · skip
        refine c_seq ?_
        -- region 16
        refine c_region ?_
        refine l_val (y_move rfl) rfl rfl rfl ?_
        refine l_val (y_nilCheck rfl) rfl rfl rfl ?_
        refine l_val (y_fieldAddr fo_53_2 rfl) rfl rfl rfl ?_
        refine l_val (y_load1 ld_45 rfl m1 (hM.get rfl)) rfl rfl rfl ?_
        refine l_val (y_move rfl) rfl rfl rfl ?_
        refine l_val (y_indexAddrOwn es_45 rfl rfl (by omega)) rfl rfl rfl ?_
        refine l_val (y_fieldAddr fo_67_4 rfl) rfl rfl rfl ?_
        refine l_val (y_load1 ld_44 rfl m2 (gget hkK rfl)) rfl rfl rfl ?_
        refine l_val (y_move rfl) rfl rfl rfl ?_
        refine l_val (y_bin rfl rfl rfl rfl) rfl rfl rfl ?_
        refine l_val (y_indexAddrOwn es_45 rfl rfl (by omega)) rfl rfl rfl ?_
        refine l_val (y_fieldAddr fo_67_4 rfl) rfl rfl rfl ?_
        refine l_does rfl rfl (g_store1 (cs' := encG ((K2).set (i + m - 1) ({ y with ad := IntKind.i32.wrap ((y).ad + (IntKind.i32.wrap (s.tdiv 2))) } : GL)) ++ sp) sz_44 rfl rfl rfl (gfit hkK rfl) rfl (gset (x := y) (y := { y with ad := IntKind.i32.wrap ((y).ad + (IntKind.i32.wrap (s.tdiv 2))) }) hkK rfl rfl) (.there (.there .here))) ?_
        intro _ _
        refine l_nil ?_
        refine q_then ?_
        refine c_seq ?_
        refine c_seq ?_
        -- region 17
        refine c_region ?_
        refine l_val (y_move rfl) rfl rfl rfl ?_
        refine l_nil ?_
        refine q_then ?_
        refine c_cond rfl (fun hc147 => ?_) (fun hc147 => ?_)
        · skip
          -- region 18
          refine c_region ?_
          refine l_val (y_move rfl) rfl rfl rfl ?_
          refine l_val (y_nilCheck rfl) rfl rfl rfl ?_
          refine l_val (y_fieldAddr fo_53_2 rfl) rfl rfl rfl ?_
          refine l_val (y_load1 ld_45 rfl m1 (hM.get rfl)) rfl rfl rfl ?_
          refine l_val (y_move rfl) rfl rfl rfl ?_
          refine l_val (y_indexAddrOwn es_45 rfl rfl (by omega)) rfl rfl rfl ?_
          refine l_val (y_fieldAddr fo_67_6 rfl) rfl rfl rfl ?_
          refine l_val (y_load1 ld_44 rfl m2 (gget hkK rfl)) rfl rfl rfl ?_
          refine l_val (y_move rfl) rfl rfl rfl ?_
          refine l_val (y_bin rfl rfl rfl rfl) rfl rfl rfl ?_
          refine l_val (y_indexAddrOwn es_45 rfl rfl (by omega)) rfl rfl rfl ?_
          refine l_val (y_fieldAddr fo_67_6 rfl) rfl rfl rfl ?_
          refine l_does rfl rfl (g_store1 (cs' := encG ((K2).set (i + m - 1) ({ { y with ad := IntKind.i32.wrap ((y).ad + (IntKind.i32.wrap (s.tdiv 2))) } with ya := IntKind.i32.wrap (({ y with ad := IntKind.i32.wrap ((y).ad + (IntKind.i32.wrap (s.tdiv 2))) }).ya + (IntKind.i32.wrap (s.tdiv 2))) } : GL)) ++ sp) sz_44 rfl rfl rfl (gfit hkK rfl) rfl (gset (x := { y with ad := IntKind.i32.wrap ((y).ad + (IntKind.i32.wrap (s.tdiv 2))) }) (y := { { y with ad := IntKind.i32.wrap ((y).ad + (IntKind.i32.wrap (s.tdiv 2))) } with ya := IntKind.i32.wrap (({ y with ad := IntKind.i32.wrap ((y).ad + (IntKind.i32.wrap (s.tdiv 2))) }).ya + (IntKind.i32.wrap (s.tdiv 2))) }) hkK rfl rfl) (.there (.there .here))) ?_
          intro _ _
          refine l_nil ?_
          refine q_then ?_
          -- region 20
          refine c_region ?_
          refine l_val (y_move rfl) rfl rfl rfl ?_
          refine l_val (y_nilCheck rfl) rfl rfl rfl ?_
          refine l_val (y_fieldAddr fo_53_2 rfl) rfl rfl rfl ?_
          refine l_val (y_load1 ld_45 rfl m1 (hM.get rfl)) rfl rfl rfl ?_
          refine l_val (y_move rfl) rfl rfl rfl ?_
          refine l_val (y_indexAddrOwn es_45 rfl rfl (by omega)) rfl rfl rfl ?_
          refine l_val (y_fieldAddr fo_67_15 rfl) rfl rfl rfl ?_
          refine l_val (y_load1 ld_44 rfl m2 (gget hkK rfl)) rfl rfl rfl ?_
          refine l_val (y_move rfl) rfl rfl rfl ?_
          refine l_val (y_bin rfl rfl rfl rfl) rfl rfl rfl ?_
          refine l_val (y_indexAddrOwn es_45 rfl rfl (by omega)) rfl rfl rfl ?_
          refine l_val (y_fieldAddr fo_67_15 rfl) rfl rfl rfl ?_
          refine l_does rfl rfl (g_store1 (cs' := encG ((K2).set (i + m - 1) ({ { { y with ad := IntKind.i32.wrap ((y).ad + (IntKind.i32.wrap (s.tdiv 2))) } with ya := IntKind.i32.wrap (({ y with ad := IntKind.i32.wrap ((y).ad + (IntKind.i32.wrap (s.tdiv 2))) }).ya + (IntKind.i32.wrap (s.tdiv 2))) } with el := IntKind.i32.wrap (({ { y with ad := IntKind.i32.wrap ((y).ad + (IntKind.i32.wrap (s.tdiv 2))) } with ya := IntKind.i32.wrap (({ y with ad := IntKind.i32.wrap ((y).ad + (IntKind.i32.wrap (s.tdiv 2))) }).ya + (IntKind.i32.wrap (s.tdiv 2))) }).el + (IntKind.i32.wrap (s.tdiv 2))) } : GL)) ++ sp) sz_44 rfl rfl rfl (gfit hkK rfl) rfl (gset (x := { { y with ad := IntKind.i32.wrap ((y).ad + (IntKind.i32.wrap (s.tdiv 2))) } with ya := IntKind.i32.wrap (({ y with ad := IntKind.i32.wrap ((y).ad + (IntKind.i32.wrap (s.tdiv 2))) }).ya + (IntKind.i32.wrap (s.tdiv 2))) }) (y := { { { y with ad := IntKind.i32.wrap ((y).ad + (IntKind.i32.wrap (s.tdiv 2))) } with ya := IntKind.i32.wrap (({ y with ad := IntKind.i32.wrap ((y).ad + (IntKind.i32.wrap (s.tdiv 2))) }).ya + (IntKind.i32.wrap (s.tdiv 2))) } with el := IntKind.i32.wrap (({ { y with ad := IntKind.i32.wrap ((y).ad + (IntKind.i32.wrap (s.tdiv 2))) } with ya := IntKind.i32.wrap (({ y with ad := IntKind.i32.wrap ((y).ad + (IntKind.i32.wrap (s.tdiv 2))) }).ya + (IntKind.i32.wrap (s.tdiv 2))) }).el + (IntKind.i32.wrap (s.tdiv 2))) }) hkK rfl rfl) (.there (.there .here))) ?_
          intro _ _
          refine l_nil ?_
          exact q_cut (K2.set (i + m - 1) ({ { { y with ad := IntKind.i32.wrap ((y).ad + (IntKind.i32.wrap (s.tdiv 2))) } with ya := IntKind.i32.wrap (({ y with ad := IntKind.i32.wrap ((y).ad + (IntKind.i32.wrap (s.tdiv 2))) }).ya + (IntKind.i32.wrap (s.tdiv 2))) } with el := IntKind.i32.wrap (({ { y with ad := IntKind.i32.wrap ((y).ad + (IntKind.i32.wrap (s.tdiv 2))) } with ya := IntKind.i32.wrap (({ y with ad := IntKind.i32.wrap ((y).ad + (IntKind.i32.wrap (s.tdiv 2))) }).ya + (IntKind.i32.wrap (s.tdiv 2))) }).el + (IntKind.i32.wrap (s.tdiv 2))) })) (updB_t hc134 hkK (by rw [hc147]; rfl)) ⟨rfl, rfl, rfl, rfl, rfl, rfl, rfl, rfl, trivial⟩ (.cons .here (.cons .here (.cons .here .nil)))
        · skip
          -- region 19
          refine c_region ?_
          refine l_val (y_move rfl) rfl rfl rfl ?_
          refine l_val (y_nilCheck rfl) rfl rfl rfl ?_
          refine l_val (y_fieldAddr fo_53_2 rfl) rfl rfl rfl ?_
          refine l_val (y_load1 ld_45 rfl m1 (hM.get rfl)) rfl rfl rfl ?_
          refine l_val (y_move rfl) rfl rfl rfl ?_
          refine l_val (y_indexAddrOwn es_45 rfl rfl (by omega)) rfl rfl rfl ?_
          refine l_val (y_fieldAddr fo_67_5 rfl) rfl rfl rfl ?_
          refine l_val (y_load1 ld_44 rfl m2 (gget hkK rfl)) rfl rfl rfl ?_
          refine l_val (y_move rfl) rfl rfl rfl ?_
          refine l_val (y_bin rfl rfl rfl rfl) rfl rfl rfl ?_
          refine l_val (y_indexAddrOwn es_45 rfl rfl (by omega)) rfl rfl rfl ?_
          refine l_val (y_fieldAddr fo_67_5 rfl) rfl rfl rfl ?_
          refine l_does rfl rfl (g_store1 (cs' := encG ((K2).set (i + m - 1) ({ { y with ad := IntKind.i32.wrap ((y).ad + (IntKind.i32.wrap (s.tdiv 2))) } with xa := IntKind.i32.wrap (({ y with ad := IntKind.i32.wrap ((y).ad + (IntKind.i32.wrap (s.tdiv 2))) }).xa + (IntKind.i32.wrap (s.tdiv 2))) } : GL)) ++ sp) sz_44 rfl rfl rfl (gfit hkK rfl) rfl (gset (x := { y with ad := IntKind.i32.wrap ((y).ad + (IntKind.i32.wrap (s.tdiv 2))) }) (y := { { y with ad := IntKind.i32.wrap ((y).ad + (IntKind.i32.wrap (s.tdiv 2))) } with xa := IntKind.i32.wrap (({ y with ad := IntKind.i32.wrap ((y).ad + (IntKind.i32.wrap (s.tdiv 2))) }).xa + (IntKind.i32.wrap (s.tdiv 2))) }) hkK rfl rfl) (.there (.there .here))) ?_
          intro _ _
          refine l_nil ?_
          refine q_then ?_
          -- region 20
          refine c_region ?_
          refine l_val (y_move rfl) rfl rfl rfl ?_
          refine l_val (y_nilCheck rfl) rfl rfl rfl ?_
          refine l_val (y_fieldAddr fo_53_2 rfl) rfl rfl rfl ?_
          refine l_val (y_load1 ld_45 rfl m1 (hM.get rfl)) rfl rfl rfl ?_
          refine l_val (y_move rfl) rfl rfl rfl ?_
          refine l_val (y_indexAddrOwn es_45 rfl rfl (by omega)) rfl rfl rfl ?_
          refine l_val (y_fieldAddr fo_67_15 rfl) rfl rfl rfl ?_
          refine l_val (y_load1 ld_44 rfl m2 (gget hkK rfl)) rfl rfl rfl ?_
          refine l_val (y_move rfl) rfl rfl rfl ?_
          refine l_val (y_bin rfl rfl rfl rfl) rfl rfl rfl ?_
          refine l_val (y_indexAddrOwn es_45 rfl rfl (by omega)) rfl rfl rfl ?_
          refine l_val (y_fieldAddr fo_67_15 rfl) rfl rfl rfl ?_
          refine l_does rfl rfl (g_store1 (cs' := encG ((K2).set (i + m - 1) ({ { { y with ad := IntKind.i32.wrap ((y).ad + (IntKind.i32.wrap (s.tdiv 2))) } with xa := IntKind.i32.wrap (({ y with ad := IntKind.i32.wrap ((y).ad + (IntKind.i32.wrap (s.tdiv 2))) }).xa + (IntKind.i32.wrap (s.tdiv 2))) } with el := IntKind.i32.wrap (({ { y with ad := IntKind.i32.wrap ((y).ad + (IntKind.i32.wrap (s.tdiv 2))) } with xa := IntKind.i32.wrap (({ y with ad := IntKind.i32.wrap ((y).ad + (IntKind.i32.wrap (s.tdiv 2))) }).xa + (IntKind.i32.wrap (s.tdiv 2))) }).el + (IntKind.i32.wrap (s.tdiv 2))) } : GL)) ++ sp) sz_44 rfl rfl rfl (gfit hkK rfl) rfl (gset (x := { { y with ad := IntKind.i32.wrap ((y).ad + (IntKind.i32.wrap (s.tdiv 2))) } with xa := IntKind.i32.wrap (({ y with ad := IntKind.i32.wrap ((y).ad + (IntKind.i32.wrap (s.tdiv 2))) }).xa + (IntKind.i32.wrap (s.tdiv 2))) }) (y := { { { y with ad := IntKind.i32.wrap ((y).ad + (IntKind.i32.wrap (s.tdiv 2))) } with xa := IntKind.i32.wrap (({ y with ad := IntKind.i32.wrap ((y).ad + (IntKind.i32.wrap (s.tdiv 2))) }).xa + (IntKind.i32.wrap (s.tdiv 2))) } with el := IntKind.i32.wrap (({ { y with ad := IntKind.i32.wrap ((y).ad + (IntKind.i32.wrap (s.tdiv 2))) } with xa := IntKind.i32.wrap (({ y with ad := IntKind.i32.wrap ((y).ad + (IntKind.i32.wrap (s.tdiv 2))) }).xa + (IntKind.i32.wrap (s.tdiv 2))) }).el + (IntKind.i32.wrap (s.tdiv 2))) }) hkK rfl rfl) (.there (.there .here))) ?_
          intro _ _
          refine l_nil ?_
          exact q_cut (K2.set (i + m - 1) ({ { { y with ad := IntKind.i32.wrap ((y).ad + (IntKind.i32.wrap (s.tdiv 2))) } with xa := IntKind.i32.wrap (({ y with ad := IntKind.i32.wrap ((y).ad + (IntKind.i32.wrap (s.tdiv 2))) }).xa + (IntKind.i32.wrap (s.tdiv 2))) } with el := IntKind.i32.wrap (({ { y with ad := IntKind.i32.wrap ((y).ad + (IntKind.i32.wrap (s.tdiv 2))) } with xa := IntKind.i32.wrap (({ y with ad := IntKind.i32.wrap ((y).ad + (IntKind.i32.wrap (s.tdiv 2))) }).xa + (IntKind.i32.wrap (s.tdiv 2))) }).el + (IntKind.i32.wrap (s.tdiv 2))) })) (updB_t hc134 hkK (by rw [hc147]; rfl)) ⟨rfl, rfl, rfl, rfl, rfl, rfl, rfl, rfl, trivial⟩ (.cons .here (.cons .here (.cons .here .nil)))
      · skip
        refine c_skip ?_
        exact q_cut (K2.set (i + m - 1) y) (updB_f hc134) ⟨rfl, rfl, rfl, rfl, rfl, rfl, rfl, rfl, trivial⟩ (.cons .here (.cons .here (.cons .here .nil)))
    intro K3 hK3
    refine q_then ?_
    -- region 21
    refine c_region ?_
    refine l_val (y_move rfl) rfl rfl rfl ?_
    refine l_val (y_fieldAddr fo_67_11 rfl) rfl rfl rfl ?_
    refine l_val (y_load1 ld_3 rfl m0 rfl) rfl rfl rfl ?_
    refine l_val (y_bin rfl rfl rfl (fitN (m := i + m) (by omega) (by omega))) rfl rfl rfl ?_
    refine l_val (y_assign rfl) rfl rfl rfl ?_
    refine l_nil ?_
    refine q_block ?_
    exact q_rnd (i + m, r, K3) (hL.next hsh2 (hG_gl _ _) (tG_gl _ _) hK hK3) (by simp only [List.length_cons]; omega) ⟨rfl, rfl, rfl, rfl, rfl, rfl, trivial⟩ (.cons (.there .here) (.cons (.there .here) .nil))
  · skip
    have hLl := hL.len
    have hL2 := hL.done (by simp only [decide_eq_false_iff_not] at hc27; omega)
    subst hL2
    refine c_exit ?_
    refine q_then_exit ?_
    refine q_rnd_exit ?_
    refine q_block_exit ?_
    refine q_then ?_
    -- region 22
    refine c_region ?_
    refine l_val (y_move rfl) rfl rfl rfl ?_
    refine l_call ok_22 rfl rfl (out_callT [] rfl (fun w1 hw1 => f22_at w1 bO o gs.length B ad up dn gp dir sv _ hLl (slOk_G hok hLl) (by omega) hM hw1)) ?_
    intro _ _
    refine l_nil ?_
    exact body_ret (rs := []) rfl (vs := []) trivial (out_end () trivial rfl .refl) _ (.inl rfl)

end Go.Proofs.Ytbepljmeflndkaa
