/- AddSpacing. -/
import Derived.Test.YtbepljmeflndkaaU
import Derived.Test.YtbepljmeflndkaaW
namespace Go.Proofs.Ytbepljmeflndkaa
open Go.Eng
set_option maxRecDepth 100000
attribute [local irreducible] IntKind.wrap Int.tdiv Int.tmod Int.emod sm encO encG maxLen sepr

theorem spT_t {v : Bool} {ts : List Int} {word letter : Int} {n k : Nat} {x y : Int × List GL} (h : (letter != 0) = true) (hx : x = bif word != 0 then spW1 v ts word y else y) : spL1 v letter ((k : Int) == 0) ((k : Int) == ((n - 1 : Nat) : Int)) x = spT v ts word letter n k y := by
  unfold spT
  rw [h, hx]
  rfl
theorem spT_f {v : Bool} {ts : List Int} {word letter : Int} {n k : Nat} {x y : Int × List GL} (h : (letter != 0) = false) (hx : x = bif word != 0 then spW1 v ts word y else y) : x = spT v ts word letter n k y := by
  unfold spT
  rw [h, hx]
  rfl
set_option maxHeartbeats 2000000 in
theorem f26_any (w : World) (svO : Sv) (cap : Nat) (dir word letter : Int) (A : Option Addr) (ts : List Int) (rs : List RP) (hdir : 0 ≤ dir ∧ dir ≤ 3) (hok : slOk svO rs.length 14 (encP dir rs)) (hlen : rs.length ≤ 1000) (hgood : ∀ r ∈ rs, GdP ts r)
    (hT : RdT w ((slH svO (encP dir rs) 53 ++ hpP rs).map (·.1)) A ts) (hw : Hp w ((slH svO (encP dir rs) 53 ++ hpP rs).map (·.1)) (slH svO (encP dir rs) 53 ++ hpP rs) w) :
    Calls Try.prog 26 [slV svO rs.length, .slice A ts.length cap, .int .i32 word, .int .i32 letter].toArray w (Out w ((slH svO (encP dir rs) 53 ++ hpP rs).map (·.1)) (fun _ : Unit => True) (fun _ => .tuple #[])
      (fun _ => slH svO (encP dir (mapI (spP (decide (2 ≤ dir)) ts word letter rs.length) 0 rs)) 53 ++ hpP (mapI (spP (decide (2 ≤ dir)) ts word letter rs.length) 0 rs))) := by
  refine enter (n := 41) Try.func26 rfl rfl rfl hw ?_
  refine c_seq ?_
  -- region 0
  refine c_region ?_
  refine l_val (y_move rfl) rfl rfl rfl ?_
  refine l_val (y_lenSv sl_57 rfl hok.nil) rfl rfl rfl ?_
  refine l_val (y_move rfl) rfl rfl rfl ?_
  refine l_nil ?_
  refine q_then ?_
  refine c_block ?_
  refine c_loop (ι := Nat × List RP) (φ := fun x => x.1 ≤ rs.length ∧ x.2 = mapI (spP (decide (2 ≤ dir)) ts word letter rs.length) 0 (rs.take x.1) ++ rs.drop x.1) (L' := fun x => [(0, slV svO rs.length), (1, .slice A ts.length cap), (2, .int .i32 word), (3, .int .i32 letter), (12, .int .i64 (rs.length : Int)), (13, .int .i64 (x.1 : Int))]) (H' := fun x => slH svO (encP dir x.2) 53 ++ hpP x.2) (fun x => rs.length - x.1) (0, rs) ⟨Nat.zero_le _, rfl⟩ ⟨rfl, rfl, rfl, rfl, rfl, rfl, trivial⟩ .refl ?_
  intro ⟨k, L⟩ ⟨hk, hL⟩
  simp only at hk hL ⊢
  refine c_seq ?_
  -- region 1
  refine c_region ?_
  refine l_val (y_bin rfl rfl rfl rfl) rfl rfl rfl ?_
  refine l_nil ?_
  refine q_then ?_
  refine c_seq ?_
  refine c_cond rfl (fun hc14 => ?_) (fun hc14 => ?_)
  · skip
    have hk2 : k < rs.length := by simp only [decide_eq_true_eq] at hc14; omega
    obtain ⟨r, hr⟩ := some_at hk2
    have hgd := hgood r (List.mem_of_getElem? hr)
    obtain ⟨pre, post, rfl, hpre, hnext⟩ := mapI_step hL hr
    obtain _ | ⟨bO, sp, cap1⟩ := svO
    · exact absurd hok.2 (by simp only; omega)
    obtain ⟨B, R, hM, hP⟩ := open_run dir bO sp cap1 pre post r
    rw [hpre] at hM
    refine c_perm (hP r.ad r.gs rfl) ?_
    refine c_skip ?_
    refine q_then ?_
    refine c_seq ?_
    refine c_block ?_
    refine c_seq ?_
    -- region 2
    refine c_region ?_
    refine l_val (y_move rfl) rfl rfl rfl ?_
    refine l_val (y_assign rfl) rfl rfl rfl ?_
    refine l_nil ?_
    refine q_then ?_
    refine c_seq ?_
    -- region 3
    refine c_region ?_
    refine l_val (y_move rfl) rfl rfl rfl ?_
    refine l_val (y_bin rfl rfl rfl rfl) rfl rfl rfl ?_
    refine l_val (y_move rfl) rfl rfl rfl ?_
    refine l_val (y_move rfl) rfl rfl rfl ?_
    refine l_val (y_lenSv (sv := some (bO, sp, cap1)) sl_57 rfl hok.nil) rfl rfl rfl ?_
    refine l_val (y_bin rfl rfl rfl (fitN (m := rs.length - 1) (by omega) (by omega))) rfl rfl rfl ?_
    refine l_val (y_bin rfl rfl rfl rfl) rfl rfl rfl ?_
    refine l_val (y_assign rfl) rfl rfl rfl ?_
    refine l_val (y_assign rfl) rfl rfl rfl ?_
    refine l_nil ?_
    refine q_then ?_
    refine c_seq ?_
    refine c_seq ?_
    -- region 4
    refine c_region ?_
    refine l_val (y_move rfl) rfl rfl rfl ?_
    refine l_val (y_bin rfl rfl rfl rfl) rfl rfl rfl ?_
    refine l_nil ?_
    refine q_then ?_
    refine c_cut (ι := Int × List GL) (φ := fun x => x = bif word != 0 then spW1 (decide (2 ≤ dir)) ts word (r.ad, r.gs) else (r.ad, r.gs)) (L' := fun _ => [(0, .slice (some ⟨bO, 0, none⟩) rs.length cap1), (1, .slice A ts.length cap), (2, .int .i32 word), (3, .int .i32 letter), (12, .int .i64 (rs.length : Int)), (13, .int .i64 (k : Int)), (8, .int .i64 (k : Int)), (9, .bool ((k : Int) == 0)), (10, .bool ((k : Int) == ((rs.length - 1 : Nat) : Int)))]) (H' := fun x => (bO, B x.1, 53) :: (slH r.sv (encG x.2) 67 ++ R)) ?_ ?_
    · skip
      refine c_cond rfl (fun hc24 => ?_) (fun hc24 => ?_)
      · skip
        -- region 5
        refine c_region ?_
        refine l_val (y_move rfl) rfl rfl rfl ?_
        refine l_val (y_move rfl) rfl rfl rfl ?_
        refine l_val (y_indexAddrOwn es_57 rfl rfl hk2) rfl rfl rfl ?_
        refine l_val (y_move rfl) rfl rfl rfl ?_
        refine l_val (y_move rfl) rfl rfl rfl ?_
        refine l_call ok_29 rfl rfl (out_head (H1 := (bO, B r.ad, 53) :: slH r.sv (encG r.gs) 67) (R := R) (fun w1 ha hb => f29_any w1 bO (k * 14) cap B r.ad 8 9 10 dir word A ts hdir r.sv r.gs hgd.ok hgd.len hM hgd.cl (hT.into ha) hb)) ?_
        intro _ _
        refine l_nil ?_
        exact q_cut (spW1 (decide (2 ≤ dir)) ts word (r.ad, r.gs)) (by rw [hc24]; rfl) ⟨rfl, rfl, rfl, rfl, rfl, rfl, rfl, rfl, rfl, trivial⟩ (.cons .here .refl)
      · skip
        refine c_skip ?_
        exact q_cut (r.ad, r.gs) (by rw [hc24]; rfl) ⟨rfl, rfl, rfl, rfl, rfl, rfl, rfl, rfl, rfl, trivial⟩ (.cons .here .refl)
    intro x hx
    have hxl : x.2.length = r.gs.length := by rw [hx]; cases word != 0 <;> simp [spW1]
    have hxg : x.2.map GL.gl = r.gs.map GL.gl := by rw [hx]; cases word != 0; rfl; exact map_same (wG_gl _ _ _ _) _
    have hxok : slOk r.sv x.2.length 16 (encG x.2) := by rw [hxl]; exact slOk_G hgd.ok hxl
    have hxM : Mid B (k * 14) 8 9 10 dir (slV r.sv x.2.length) := by rw [hxl]; exact hM
    have hxs : ∃ ms, Shp (x.2.map GL.gl) 0 ms := by rw [hxg]; exact hgd.shp
    have hxn := hgd.len
    refine q_then ?_
    refine c_seq ?_
    -- region 6
    refine c_region ?_
    refine l_val (y_move rfl) rfl rfl rfl ?_
    refine l_val (y_bin rfl rfl rfl rfl) rfl rfl rfl ?_
    refine l_nil ?_
    refine q_then ?_
    refine c_cond rfl (fun hc32 => ?_) (fun hc32 => ?_)
    · skip
      -- region 7
      refine c_region ?_
      refine l_val (y_move rfl) rfl rfl rfl ?_
      refine l_val (y_move rfl) rfl rfl rfl ?_
      refine l_val (y_indexAddrOwn es_57 rfl rfl hk2) rfl rfl rfl ?_
      refine l_val (y_move rfl) rfl rfl rfl ?_
      refine l_val (y_move rfl) rfl rfl rfl ?_
      refine l_val (y_move rfl) rfl rfl rfl ?_
      refine l_call ok_30 rfl rfl (out_head (H1 := (bO, B x.1, 53) :: slH r.sv (encG x.2) 67) (R := R) (fun w1 ha hb => f30_any w1 bO (k * 14) B x.1 8 9 10 dir letter ((k : Int) == 0) ((k : Int) == ((rs.length - 1 : Nat) : Int)) hdir r.sv x.2 _ (msOf_ok hxs) hxok (by omega) hxM hb)) ?_
      intro _ _
      refine l_nil ?_
      refine q_block ?_
      refine q_then ?_
      -- region 8
      refine c_region ?_
      refine l_val (y_bin rfl rfl rfl (fitN (m := k + 1) (by omega) (by omega))) rfl rfl rfl ?_
      refine l_val (y_move rfl) rfl rfl rfl ?_
      refine l_nil ?_
      refine q_perm (hP (spL1 (decide (2 ≤ dir)) letter ((k : Int) == 0) ((k : Int) == ((rs.length - 1 : Nat) : Int)) x).1 (spL1 (decide (2 ≤ dir)) letter ((k : Int) == 0) ((k : Int) == ((rs.length - 1 : Nat) : Int)) x).2 ((letL_len _ _ _ _ _ _ _ _).trans hxl)).symm ?_
      exact q_rnd (k + 1, pre ++ ⟨(spL1 (decide (2 ≤ dir)) letter ((k : Int) == 0) ((k : Int) == ((rs.length - 1 : Nat) : Int)) x).1, (spL1 (decide (2 ≤ dir)) letter ((k : Int) == 0) ((k : Int) == ((rs.length - 1 : Nat) : Int)) x).2, r.sv⟩ :: post) ⟨hk2, by rw [← hnext]; exact congrArg (fun y : Int × List GL => pre ++ (⟨y.1, y.2, r.sv⟩ : RP) :: post) (spT_t hc32 hx)⟩ (by simp only; omega) ⟨rfl, rfl, rfl, rfl, rfl, rfl, trivial⟩ .refl
    · skip
      refine c_skip ?_
      refine q_block ?_
      refine q_then ?_
      -- region 8
      refine c_region ?_
      refine l_val (y_bin rfl rfl rfl (fitN (m := k + 1) (by omega) (by omega))) rfl rfl rfl ?_
      refine l_val (y_move rfl) rfl rfl rfl ?_
      refine l_nil ?_
      refine q_perm (hP x.1 x.2 hxl).symm ?_
      exact q_rnd (k + 1, pre ++ ⟨x.1, x.2, r.sv⟩ :: post) ⟨hk2, by rw [← hnext]; exact congrArg (fun y : Int × List GL => pre ++ (⟨y.1, y.2, r.sv⟩ : RP) :: post) (spT_f hc32 hx)⟩ (by simp only; omega) ⟨rfl, rfl, rfl, rfl, rfl, rfl, trivial⟩ .refl
  · skip
    have hL2 := mapI_end hL (by simp only [decide_eq_false_iff_not] at hc14; omega)
    subst hL2
    refine c_exit ?_
    refine q_then_exit ?_
    refine q_rnd_exit ?_
    refine q_block_exit ?_
    exact body_ret (rs := []) rfl (vs := []) trivial (out_end () trivial rfl .refl) _ (.inl rfl)

end Go.Proofs.Ytbepljmeflndkaa
