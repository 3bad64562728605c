/- Part 9 of the proof about FnCharstring. -/
import Derived.Test.YtbepljmeflndkaaGreatDoorQ08
namespace Go.Proofs.YtbepljmeflndkaaGreatDoor
open Go.Eng Go.Fl
/-- The bounds so far. -/
abbrev Bx := Option (Int × Int × Int × Int)
def enl (bx : Bx) (x y : Int) : Bx := match bx with
  | none => some (x, y, x, y)
  | some (a, b, c, d) => some (min a x, min b y, max c x, max d y)
def w1 (bx : Bx) : Nat := match bx with | none => 0 | some (a, _, _, _) => F a
def w2 (bx : Bx) : Nat := match bx with | none => 0 | some (_, b, _, _) => F b
def w3 (bx : Bx) : Nat := match bx with | none => 0 | some (_, _, c, _) => F c
def w4 (bx : Bx) : Nat := match bx with | none => 0 | some (_, _, _, d) => F d
/-- The pen's block. -/
abbrev HB (bH : Nat) (so : Sv) (n : Nat) (bx : Bx) (v5 v6 v7 : Value) (x y fx fy : Int) (io : Bool) (v13 : Value) (s : Bool) (wd : List Value) : Blk := (bH, slV so n :: .float .f64 (w1 bx) :: .float .f64 (w2 bx) :: .float .f64 (w3 bx) :: .float .f64 (w4 bx) :: v5 :: v6 :: v7 :: .float .f64 (F x) :: .float .f64 (F y) :: .float .f64 (F fx) :: .float .f64 (F fy) :: .bool io :: v13 :: .bool s :: wd, 99)
def BxBd (bx : Bx) (M : Nat) : Prop := ∀ a b c d, bx = some (a, b, c, d) → a.natAbs ≤ M ∧ b.natAbs ≤ M ∧ c.natAbs ≤ M ∧ d.natAbs ≤ M
theorem BxBd.mono {bx : Bx} {M N : Nat} (h : BxBd bx M) (hn : M ≤ N) : BxBd bx N := fun a b c d e => by
  obtain ⟨h1, h2, h3, h4⟩ := h a b c d e; exact ⟨by omega, by omega, by omega, by omega⟩
theorem min_abs {a x : Int} {M : Nat} (ha : a.natAbs ≤ M) (hx : x.natAbs ≤ M) : (min a x).natAbs ≤ M := by
  rcases Int.le_total a x with h | h
  · rw [Int.min_eq_left h]; exact ha
  · rw [Int.min_eq_right h]; exact hx
theorem max_abs {a x : Int} {M : Nat} (ha : a.natAbs ≤ M) (hx : x.natAbs ≤ M) : (max a x).natAbs ≤ M := by
  rcases Int.le_total a x with h | h
  · rw [Int.max_eq_right h]; exact hx
  · rw [Int.max_eq_left h]; exact ha
theorem BxBd.enl {bx : Bx} {M : Nat} {x y : Int} (h : BxBd bx M) (hx : x.natAbs ≤ M) (hy : y.natAbs ≤ M) : BxBd (enl bx x y) M := by
  intro a b c d e
  cases bx with
  | none => injection e with e; injection e with e1 e2; injection e2 with e2 e3; injection e3 with e3 e4; subst e1 e2 e3 e4; exact ⟨hx, hy, hx, hy⟩
  | some q =>
    obtain ⟨a', b', c', d'⟩ := q
    obtain ⟨h1, h2, h3, h4⟩ := h _ _ _ _ rfl
    injection e with e; injection e with e1 e2; injection e2 with e2 e3; injection e3 with e3 e4; subst e1 e2 e3 e4
    exact ⟨min_abs h1 hx, min_abs h2 hy, max_abs h3 hx, max_abs h4 hy⟩
/-- The pen: position, where the contour began, the pieces; whether a piece has come since the contour began; the bounds. -/
structure QSt where
  (x y fx fy : Int) (io : Bool) (out : List Stk) (bx : Bx)
structure QSt.Bd (q : QSt) (M : Nat) : Prop where
  x : q.x.natAbs ≤ M
  y : q.y.natAbs ≤ M
  fx : q.fx.natAbs ≤ M
  fy : q.fy.natAbs ≤ M
  bx : BxBd q.bx M
theorem QSt.Bd.mono {q : QSt} {M N : Nat} (h : q.Bd M) (hn : M ≤ N) : q.Bd N := ⟨Nat.le_trans h.x hn, Nat.le_trans h.y hn, Nat.le_trans h.fx hn, Nat.le_trans h.fy hn, h.bx.mono hn⟩
/-- The bounds as a piece begins. -/
def beg (q : QSt) : Bx := bif q.io then q.bx else enl q.bx q.x q.y
def lineQ (q : QSt) (a b : Int) : QSt := { q with x := q.x + a, y := q.y + b, io := true, out := q.out ++ [stk1 1 (q.x + a) (q.y + b)], bx := enl (beg q) (q.x + a) (q.y + b) }
def curveQ (q : QSt) (a b c d e f : Int) : QSt :=
  { q with x := q.x + a + c + e, y := q.y + b + d + f, io := true, out := q.out ++ [stk3 3 (q.x + a) (q.y + b) (q.x + a + c) (q.y + b + d) (q.x + a + c + e) (q.y + b + d + f)],
           bx := enl (enl (enl (beg q) (q.x + a) (q.y + b)) (q.x + a + c) (q.y + b + d)) (q.x + a + c + e) (q.y + b + d + f) }
def gap (q : QSt) : Bool := !(decide (q.fx = q.x) && decide (q.fy = q.y))
def closeQ (q : QSt) : QSt := { q with out := bif gap q then q.out ++ [stk1 1 q.fx q.fy] else q.out }
def moveQ (q : QSt) (a b : Int) : QSt := { closeQ q with x := q.x + a, y := q.y + b, fx := q.x + a, fy := q.y + b, io := false, out := (closeQ q).out ++ [stk1 0 (q.x + a) (q.y + b)] }
/-- A piece, as the package keeps it. -/
def Stk.gcells (s : Stk) : List Value := [.int .u8 s.op, .float .f32 s.a0, .float .f32 s.b0, .float .f32 s.a1, .float .f32 s.b1, .float .f32 s.a2, .float .f32 s.b2]
def encG (l : List Stk) : List Value := l.flatMap Stk.gcells
theorem Stk.gone (s : Stk) : ∀ u ∈ Stk.gcells s, u.oneCell' = true := List.all_eq_true.1 (show (Stk.gcells s).all Value.oneCell' = true from rfl)
theorem encG_snoc (l : List Stk) (s : Stk) : encG l ++ Stk.gcells s = encG (l ++ [s]) := by simp [encG]
theorem cmp_lt (a b : Int) : cmpB .lss (compare a b) = some (decide (a < b)) := by
  unfold cmpB
  rcases Int.lt_trichotomy a b with h | h | h
  · rw [Int.compare_eq_lt.2 h, decide_eq_true (by omega)]; rfl
  · rw [Int.compare_eq_eq.2 h, decide_eq_false (by omega)]; rfl
  · rw [Int.compare_eq_gt.2 h, decide_eq_false (by omega)]; rfl
theorem mid0 {pre post : List Value} {x y : Value} : (pre ++ (x :: y :: post))[pre.length]? = some x := by rw [List.getElem?_append_right (Nat.le_refl _), Nat.sub_self]; rfl
theorem mid1 {pre post : List Value} {x y : Value} : (pre ++ (x :: y :: post))[pre.length + 1]? = some y := by rw [List.getElem?_append_right (Nat.le_add_right _ 1), Nat.add_sub_cancel_left]; rfl
theorem smid0 {pre post : List Value} {x y z : Value} : (pre ++ (x :: y :: post)).set pre.length z = pre ++ (z :: y :: post) := by rw [List.set_append_right _ _ (Nat.le_refl _), Nat.sub_self]; rfl
theorem smid1 {pre post : List Value} {x y z : Value} : (pre ++ (x :: y :: post)).set (pre.length + 1) z = pre ++ (x :: z :: post) := by rw [List.set_append_right _ _ (Nat.le_add_right _ 1), Nat.add_sub_cancel_left]; rfl
theorem midlt0 {pre post : List Value} {x y : Value} : Nat.blt pre.length (pre ++ (x :: y :: post)).length = true := by apply Nat.ble_eq_true_of_le; simp
theorem midlt1 {pre post : List Value} {x y : Value} : Nat.blt (pre.length + 1) (pre ++ (x :: y :: post)).length = true := by apply Nat.ble_eq_true_of_le; simp; omega
def lineA (q : QSt) (X Y : Int) : QSt := { q with x := X, y := Y, io := true, out := q.out ++ [stk1 1 X Y], bx := enl (beg q) X Y }
def curveA (q : QSt) (x0 y0 x1 y1 x2 y2 : Int) : QSt := { q with x := x2, y := y2, io := true, out := q.out ++ [stk3 3 x0 y0 x1 y1 x2 y2], bx := enl (enl (enl (beg q) x0 y0) x1 y1) x2 y2 }
def endQ (q : QSt) : QSt := { closeQ q with io := false }
theorem beg_bd {q : QSt} {M : Nat} (h : q.Bd M) : BxBd (beg q) M := by
  unfold beg
  cases q.io
  · exact h.bx.enl h.x h.y
  · exact h.bx
theorem out_one {P : Program} {w0 : World} {S : List Nat} {f : Nat} {args : Array Value} {ι : Type} {φ : ι → Prop} {vv : ι → Value} (A : Heap) {R : Heap} {b : Blk} {B : ι → Blk}
    (hc : ∀ w, Hp w0 S (A ++ (b :: R)) w → Hp w [b.1] [b] w → Calls P f args w (Out w [b.1] φ vv (fun x => [B x]))) : ∀ w, Hp w0 S (A ++ (b :: R)) w → Calls P f args w (Out w0 S φ vv (fun x => A ++ (B x :: R))) := by
  intro w hw
  have hp : ∀ c : Blk, (A ++ (c :: R)).Perm ([c] ++ (A ++ R)) := fun c => List.perm_middle
  refine (out_frame hw (H1 := [b]) (hp b) (hc w hw (Hp.self (H1 := [b]) (hw.perm (hp b))))).mono ?_
  rintro e w' ⟨x, hx, he, hH⟩
  exact ⟨x, hx, he, hH.perm (hp (B x)).symm⟩
end Go.Proofs.YtbepljmeflndkaaGreatDoor
namespace Go.Proofs.YtbepljmeflndkaaGreatDoor
open Go.Eng Go.Fl
set_option maxRecDepth 100000
attribute [local irreducible] IntKind.wrap Int.tdiv Int.tmod Int.emod maxLen F G
theorem f111_any (w : World) (x y : Int) (hx : x.natAbs < 2 ^ 53) (hy : y.natAbs < 2 ^ 53) : Calls Tryz.prog 111 [.agg #[.float .f64 (F x), .float .f64 (F y)]].toArray w (Out w [] (fun z : Unit => True) (fun z => .agg #[.float .f32 (G x), .float .f32 (G y)]) (fun z => [])) := by
 refine enter (n := 10) Tryz.func111 rfl rfl rfl (Hp.refl w) ?_
 refine cR ?_
 refine l_gives rfl rfl (g_box (vs := [_, _]) rfl rfl) rfl ?_
 intro b1 hb1
 refine l_gives rfl rfl (g_alloc ze_74) rfl ?_
 intro b2 hb2
 refine nR ?_
 refine lV (y_fieldAddr fo_50_0 rfl) ?_
 refine lV (y_load1 ld_41 rfl m1 rfl) ?_
 refine lV (y_convFF cf_41_28 rfl hx) ?_
 refine lV (y_fieldAddr fo_50_1 rfl) ?_
 refine lV (y_load1 ld_41 rfl m1 rfl) ?_
 refine lV (y_convFF cf_41_28 rfl hy) ?_
 refine lV (y_build1 (out := [_, _]) bp_74 rfl rfl rfl) ?_
 refine l_does rfl rfl (g_storeN (vs := [_, _]) (cs' := [_, _]) sz_74 rfl rfl rfl rfl rfl rfl rfl .here) ?_
 intro _ _
 refine nQ ?_
 refine c_ret ?_
 exact body_ret (rs := [.cell 2 74]) rfl (vs := [.agg #[.float .f32 (G x), .float .f32 (G y)]]) ⟨⟨_, _, _, _, rfl, .head _, .inr ⟨2, _, ld_74, rfl, rfl, rfl⟩⟩, trivial⟩ (out_end () trivial rfl .nil) _ (.inr rfl)
theorem f148_any (w : World) (g : Nat) (pre post : List Value) (e : TypeId) (x y dx dy : Int) (i j : Nat) (hx : x.natAbs < 2 ^ 53) (hy : y.natAbs < 2 ^ 53) (hi : RF i dx) (hj : RF j dy) (hx1 : (x + dx).natAbs < 2 ^ 53) (hy1 : (y + dy).natAbs < 2 ^ 53) (hw : Hp w [g] [(g, pre ++ (.float .f64 (F x) :: .float .f64 (F y) :: post), e)] w) : Calls Tryz.prog 148 [.pointer (some ⟨g, pre.length, none⟩), .float .f64 i, .float .f64 j].toArray w (Out w [g] (fun z : Unit => True) (fun z => .tuple #[]) (fun z => [(g, pre ++ (.float .f64 (F (x + dx)) :: .float .f64 (F (y + dy)) :: post), e)])) := by
 refine enter (n := 22) Tryz.func148 rfl rfl rfl hw ?_
 refine cR ?_
 refine lM rfl ?_
 refine lN rfl ?_
 refine lV (y_fieldAddr fo_50_0 rfl) ?_
 refine lV (y_load1 ld_41 rfl m0 mid0) ?_
 refine lM rfl ?_
 refine lV (y_fadd rfl rfl hx hi hx1) ?_
 refine lN rfl ?_
 refine lV (y_fieldAddr fo_50_0 rfl) ?_
 refine l_does rfl rfl (g_store1 sz_41 rfl rfl rfl midlt0 rfl smid0 .here) ?_
 intro _ _
 refine nG ?_
 refine lM rfl ?_
 refine lN rfl ?_
 refine lV (y_fieldAddr fo_50_1 rfl) ?_
 refine lV (y_load1 ld_41 rfl m0 mid1) ?_
 refine lM rfl ?_
 refine lV (y_fadd rfl rfl hy hj hy1) ?_
 refine lN rfl ?_
 refine lV (y_fieldAddr fo_50_1 rfl) ?_
 refine l_does rfl rfl (g_store1 sz_41 rfl rfl rfl midlt1 rfl smid1 .here) ?_
 intro _ _
 refine l_nil ?_
 exact body_ret (rs := []) rfl (vs := []) trivial (out_end () trivial rfl .refl) _ (.inl rfl)
set_option maxHeartbeats 2000000 in
theorem f158_any (w : World) (bH : Nat) (a b c d x y : Int) (s0 : Value) (rest : List Value) (ha : a.natAbs < 2 ^ 53) (hb : b.natAbs < 2 ^ 53) (hc : c.natAbs < 2 ^ 53) (hd : d.natAbs < 2 ^ 53) (hx : x.natAbs < 2 ^ 53) (hy : y.natAbs < 2 ^ 53) (hw : Hp w [bH] [(bH, s0 :: .float .f64 (F a) :: .float .f64 (F b) :: .float .f64 (F c) :: .float .f64 (F d) :: rest, 99)] w) : Calls Tryz.prog 158 [.pointer (some ⟨bH, 1, none⟩), .agg #[.float .f64 (F x), .float .f64 (F y)]].toArray w (Out w [bH] (fun z : Int × Int × Int × Int => z.1 = min a x ∧ z.2.1 = min b y ∧ z.2.2.1 = max c x ∧ z.2.2.2 = max d y) (fun z => .tuple #[]) (fun z => [(bH, s0 :: .float .f64 (F z.1) :: .float .f64 (F z.2.1) :: .float .f64 (F z.2.2.1) :: .float .f64 (F z.2.2.2) :: rest, 99)])) := by
 refine enter (n := 60) Tryz.func158 rfl rfl rfl hw ?_
 refine cR ?_
 refine l_gives rfl rfl (g_box (vs := [_, _]) rfl rfl) rfl ?_
 intro b3 hb3
 refine nQ ?_
 refine c_seq ?_
 refine c_seq ?_
 refine c_drawH mixed rfl ?_
 refine dV 0 rfl (y_fieldAddr fo_50_0 rfl) ?_
 refine dV 1 rfl (y_load1 ld_41 rfl m0 rfl) ?_
 refine dM 2 rfl rfl ?_
 refine dN 3 rfl rfl ?_
 refine dV 4 rfl (y_fieldAddr fo_52_0 rfl) ?_
 refine dV 5 rfl (y_fieldAddr fo_50_0 rfl) ?_
 refine dV 6 rfl (y_load1 ld_41 rfl m1 rfl) ?_
 refine dV 7 rfl (y_fcmp rfl rfl (order_RF (RF_F hx) (RF_F ha)) (cmp_lt _ _)) ?_
 refine d_end (by kernel_rfl) (.cons .here (.cons .here .nil)) ?_
 refine q_then ?_
 refine c_cut (ι := Int) (φ := fun z => z = min a x) (L' := fun _ => [(0, .pointer (some ⟨bH, 1, none⟩)), (3, .pointer (some ⟨b3, 0, none⟩))]) (H' := fun z => (b3, [.float .f64 (F x), .float .f64 (F y)], 50) :: [(bH, s0 :: .float .f64 (F z) :: .float .f64 (F b) :: .float .f64 (F c) :: .float .f64 (F d) :: rest, 99)]) ?_ ?_
 ·refine c_cond rfl (fun hc11 => ?_) (fun hc11 => ?_)
  ·refine c_region ?_
   refine lM rfl ?_
   refine lV (y_fieldAddr fo_50_0 rfl) ?_
   refine lV (y_load1 ld_41 rfl m0 rfl) ?_
   refine lN rfl ?_
   refine lV (y_fieldAddr fo_52_0 rfl) ?_
   refine lV (y_fieldAddr fo_50_0 rfl) ?_
   refine l_does rfl rfl (g_store1 (cs' := _ :: _ :: _) sz_41 rfl rfl (by first | rfl | exact slV_cells _ _ | exact fvV_cells _ _) rfl (by first | rfl | exact slV_one _ _ | exact fvV_one _ _) rfl (.there .here)) ?_
   intro _ _
   refine l_nil ?_
   exact q_cut x (by simp only [decide_eq_true_eq, decide_eq_false_iff_not] at hc11; omega) ⟨rfl, rfl, trivial⟩ (.cons .here (.cons .here .nil))
  ·refine c_skip ?_
   exact q_cut a (by simp only [decide_eq_true_eq, decide_eq_false_iff_not] at hc11; omega) ⟨rfl, rfl, trivial⟩ (.cons .here (.cons .here .nil))
 intro a' ha'
 refine q_then ?_
 refine c_seq ?_
 refine c_seq ?_
 refine c_drawH mixed rfl ?_
 refine dV 0 rfl (y_fieldAddr fo_50_0 rfl) ?_
 refine dV 1 rfl (y_load1 ld_41 rfl m0 rfl) ?_
 refine dM 2 rfl rfl ?_
 refine dN 3 rfl rfl ?_
 refine dV 4 rfl (y_fieldAddr fo_52_1 rfl) ?_
 refine dV 5 rfl (y_fieldAddr fo_50_0 rfl) ?_
 refine dV 6 rfl (y_load1 ld_41 rfl m1 rfl) ?_
 refine dV 7 rfl (y_fcmp rfl rfl (order_RF (RF_F hx) (RF_F hc)) (cmp_gt _ _)) ?_
 refine d_end (by kernel_rfl) (.cons .here (.cons .here .nil)) ?_
 refine q_then ?_
 refine c_cut (ι := Int) (φ := fun z => z = max c x) (L' := fun _ => [(0, .pointer (some ⟨bH, 1, none⟩)), (3, .pointer (some ⟨b3, 0, none⟩))]) (H' := fun z => (b3, [.float .f64 (F x), .float .f64 (F y)], 50) :: [(bH, s0 :: .float .f64 (F a') :: .float .f64 (F b) :: .float .f64 (F z) :: .float .f64 (F d) :: rest, 99)]) ?_ ?_
 ·refine c_cond rfl (fun hc25 => ?_) (fun hc25 => ?_)
  ·refine c_region ?_
   refine lM rfl ?_
   refine lV (y_fieldAddr fo_50_0 rfl) ?_
   refine lV (y_load1 ld_41 rfl m0 rfl) ?_
   refine lN rfl ?_
   refine lV (y_fieldAddr fo_52_1 rfl) ?_
   refine lV (y_fieldAddr fo_50_0 rfl) ?_
   refine l_does rfl rfl (g_store1 (cs' := _ :: _ :: _ :: _ :: _) sz_41 rfl rfl (by first | rfl | exact slV_cells _ _ | exact fvV_cells _ _) rfl (by first | rfl | exact slV_one _ _ | exact fvV_one _ _) rfl (.there .here)) ?_
   intro _ _
   refine l_nil ?_
   exact q_cut x (by simp only [decide_eq_true_eq, decide_eq_false_iff_not] at hc25; omega) ⟨rfl, rfl, trivial⟩ (.cons .here (.cons .here .nil))
  ·refine c_skip ?_
   exact q_cut c (by simp only [decide_eq_true_eq, decide_eq_false_iff_not] at hc25; omega) ⟨rfl, rfl, trivial⟩ (.cons .here (.cons .here .nil))
 intro c' hc'
 refine q_then ?_
 refine c_seq ?_
 refine c_seq ?_
 refine c_drawH mixed rfl ?_
 refine dV 0 rfl (y_fieldAddr fo_50_1 rfl) ?_
 refine dV 1 rfl (y_load1 ld_41 rfl m0 rfl) ?_
 refine dM 2 rfl rfl ?_
 refine dN 3 rfl rfl ?_
 refine dV 4 rfl (y_fieldAddr fo_52_0 rfl) ?_
 refine dV 5 rfl (y_fieldAddr fo_50_1 rfl) ?_
 refine dV 6 rfl (y_load1 ld_41 rfl m1 rfl) ?_
 refine dV 7 rfl (y_fcmp rfl rfl (order_RF (RF_F hy) (RF_F hb)) (cmp_lt _ _)) ?_
 refine d_end (by kernel_rfl) (.cons .here (.cons .here .nil)) ?_
 refine q_then ?_
 refine c_cut (ι := Int) (φ := fun z => z = min b y) (L' := fun _ => [(0, .pointer (some ⟨bH, 1, none⟩)), (3, .pointer (some ⟨b3, 0, none⟩))]) (H' := fun z => (b3, [.float .f64 (F x), .float .f64 (F y)], 50) :: [(bH, s0 :: .float .f64 (F a') :: .float .f64 (F z) :: .float .f64 (F c') :: .float .f64 (F d) :: rest, 99)]) ?_ ?_
 ·refine c_cond rfl (fun hc39 => ?_) (fun hc39 => ?_)
  ·refine c_region ?_
   refine lM rfl ?_
   refine lV (y_fieldAddr fo_50_1 rfl) ?_
   refine lV (y_load1 ld_41 rfl m0 rfl) ?_
   refine lN rfl ?_
   refine lV (y_fieldAddr fo_52_0 rfl) ?_
   refine lV (y_fieldAddr fo_50_1 rfl) ?_
   refine l_does rfl rfl (g_store1 (cs' := _ :: _ :: _ :: _) sz_41 rfl rfl (by first | rfl | exact slV_cells _ _ | exact fvV_cells _ _) rfl (by first | rfl | exact slV_one _ _ | exact fvV_one _ _) rfl (.there .here)) ?_
   intro _ _
   refine l_nil ?_
   exact q_cut y (by simp only [decide_eq_true_eq, decide_eq_false_iff_not] at hc39; omega) ⟨rfl, rfl, trivial⟩ (.cons .here (.cons .here .nil))
  ·refine c_skip ?_
   exact q_cut b (by simp only [decide_eq_true_eq, decide_eq_false_iff_not] at hc39; omega) ⟨rfl, rfl, trivial⟩ (.cons .here (.cons .here .nil))
 intro b' hb'
 refine q_then ?_
 refine c_seq ?_
 refine c_drawH mixed rfl ?_
 refine dV 0 rfl (y_fieldAddr fo_50_1 rfl) ?_
 refine dV 1 rfl (y_load1 ld_41 rfl m0 rfl) ?_
 refine dM 2 rfl rfl ?_
 refine dN 3 rfl rfl ?_
 refine dV 4 rfl (y_fieldAddr fo_52_1 rfl) ?_
 refine dV 5 rfl (y_fieldAddr fo_50_1 rfl) ?_
 refine dV 6 rfl (y_load1 ld_41 rfl m1 rfl) ?_
 refine dV 7 rfl (y_fcmp rfl rfl (order_RF (RF_F hy) (RF_F hd)) (cmp_gt _ _)) ?_
 refine d_end (by kernel_rfl) (.cons .here (.cons .here .nil)) ?_
 refine q_then ?_
 refine c_cut (ι := Int) (φ := fun z => z = max d y) (L' := fun _ => [(0, .pointer (some ⟨bH, 1, none⟩)), (3, .pointer (some ⟨b3, 0, none⟩))]) (H' := fun z => (b3, [.float .f64 (F x), .float .f64 (F y)], 50) :: [(bH, s0 :: .float .f64 (F a') :: .float .f64 (F b') :: .float .f64 (F c') :: .float .f64 (F z) :: rest, 99)]) ?_ ?_
 ·refine c_cond rfl (fun hc53 => ?_) (fun hc53 => ?_)
  ·refine c_region ?_
   refine lM rfl ?_
   refine lV (y_fieldAddr fo_50_1 rfl) ?_
   refine lV (y_load1 ld_41 rfl m0 rfl) ?_
   refine lN rfl ?_
   refine lV (y_fieldAddr fo_52_1 rfl) ?_
   refine lV (y_fieldAddr fo_50_1 rfl) ?_
   refine l_does rfl rfl (g_store1 (cs' := _ :: _ :: _ :: _ :: _ :: _) sz_41 rfl rfl (by first | rfl | exact slV_cells _ _ | exact fvV_cells _ _) rfl (by first | rfl | exact slV_one _ _ | exact fvV_one _ _) rfl (.there .here)) ?_
   intro _ _
   refine l_nil ?_
   exact q_cut y (by simp only [decide_eq_true_eq, decide_eq_false_iff_not] at hc53; omega) ⟨rfl, rfl, trivial⟩ (.cons .here (.cons .here .nil))
  ·refine c_skip ?_
   exact q_cut d (by simp only [decide_eq_true_eq, decide_eq_false_iff_not] at hc53; omega) ⟨rfl, rfl, trivial⟩ (.cons .here (.cons .here .nil))
 intro d' hd'
 exact body_ret (rs := []) rfl (vs := []) trivial (out_end (a', b', c', d') ⟨ha', hb', hc', hd'⟩ rfl (.skip .refl)) _ (.inl rfl)
end Go.Proofs.YtbepljmeflndkaaGreatDoor
namespace Go.Proofs.YtbepljmeflndkaaGreatDoor
open Go.Eng Go.Fl
set_option maxRecDepth 100000
attribute [local irreducible] IntKind.wrap Int.tdiv Int.tmod Int.emod maxLen F G
set_option maxHeartbeats 2000000 in
theorem f155_none (w : World) (bH : Nat) (x y : Int) (s0 v5 v6 v7 v8 v9 v10 v11 v12 v13 : Value) (wd : List Value) (hx : x.natAbs < 2 ^ 53) (hy : y.natAbs < 2 ^ 53) (hw : Hp w [bH] [(bH, s0 :: .float .f64 (w1 none) :: .float .f64 (w2 none) :: .float .f64 (w3 none) :: .float .f64 (w4 none) :: v5 :: v6 :: v7 :: v8 :: v9 :: v10 :: v11 :: v12 :: v13 :: .bool false :: wd, 99)] w) : Calls Tryz.prog 155 [.pointer (some ⟨bH, 0, none⟩), .agg #[.float .f64 (F x), .float .f64 (F y)]].toArray w (Out w [bH] (fun z : Unit => True) (fun z => .tuple #[]) (fun z => [(bH, s0 :: .float .f64 (w1 (enl none x y)) :: .float .f64 (w2 (enl none x y)) :: .float .f64 (w3 (enl none x y)) :: .float .f64 (w4 (enl none x y)) :: v5 :: v6 :: v7 :: v8 :: v9 :: v10 :: v11 :: v12 :: v13 :: .bool true :: wd, 99)])) := by
 refine enter (n := 27) Tryz.func155 rfl rfl rfl hw ?_
 refine cR ?_
 refine l_gives rfl rfl (g_box (vs := [_, _]) rfl rfl) rfl ?_
 intro b3 hb3
 refine nQ ?_
 refine c_seq ?_
 refine cR ?_
 refine lM rfl ?_
 refine lN rfl ?_
 refine lV (y_fieldAddr fo_97_9 rfl) ?_
 refine lV (y_load1 ld_4 rfl m1 rfl) ?_
 refine lV (y_not rfl) ?_
 refine nQ ?_
 refine c_true rfl rfl ?_
 refine c_seq ?_
 refine c_draw [(b3, [.float .f64 (F x), .float .f64 (F y)], 50)] mixed rfl ?_
 refine dM 0 rfl rfl ?_
 refine dM 1 rfl rfl ?_
 refine dV 2 rfl (y_loadN (vs := [_, _]) ld_50 rfl m0 rfl rfl) ?_
 refine dV 3 rfl (y_loadN (vs := [_, _]) ld_50 rfl m0 rfl rfl) ?_
 refine dN 4 rfl rfl ?_
 refine dV 5 rfl (y_fieldAddr fo_97_1 rfl) ?_
 refine dV 6 rfl (y_fieldAddr fo_52_0 rfl) ?_
 refine d_ready (i := 7) (rs := []) (by kernel_rfl) (.cons .here .nil) (all_one ?_)
 refine o_does rfl rfl rfl (g_storeN (vs := [_, _]) (cs' := _ :: _ :: _ :: _) sz_50 rfl rfl rfl rfl rfl rfl rfl (.there .here)) ?_
 intro _ _
 refine dN 8 rfl rfl ?_
 refine dV 9 rfl (y_fieldAddr fo_97_1 rfl) ?_
 refine dV 10 rfl (y_fieldAddr fo_52_1 rfl) ?_
 refine d_ready (i := 11) (rs := []) (by kernel_rfl) (.cons .here .nil) (all_one ?_)
 refine o_does rfl rfl rfl (g_storeN (vs := [_, _]) (cs' := _ :: _ :: _ :: _ :: _ :: _) sz_50 rfl rfl rfl rfl rfl rfl rfl (.there .here)) ?_
 intro _ _
 refine d_end (by kernel_rfl) (.cons .here .nil) ?_
 refine qR ?_
 refine lM rfl ?_
 refine lN rfl ?_
 refine lV (y_fieldAddr fo_97_9 rfl) ?_
 refine l_does rfl rfl (g_store1 (cs' := _ :: _ :: _ :: _ :: _ :: _ :: _ :: _ :: _ :: _ :: _ :: _ :: _ :: _ :: _ :: _) sz_4 rfl rfl (by first | rfl | exact slV_cells _ _ | exact fvV_cells _ _) rfl (by first | rfl | exact slV_one _ _ | exact fvV_one _ _) rfl (.there .here)) ?_
 intro _ _
 refine nQ ?_
 refine c_ret ?_
 refine q_then_ret ?_
 exact body_ret (rs := []) rfl (vs := []) trivial (out_end () trivial rfl (.skip .refl)) _ (.inr rfl)
set_option maxHeartbeats 2000000 in
theorem f155_some (w : World) (bH : Nat) (a b c d : Int) (ha : a.natAbs < 2 ^ 53) (hb : b.natAbs < 2 ^ 53) (hc : c.natAbs < 2 ^ 53) (hd : d.natAbs < 2 ^ 53) (x y : Int) (s0 v5 v6 v7 v8 v9 v10 v11 v12 v13 : Value) (wd : List Value) (hx : x.natAbs < 2 ^ 53) (hy : y.natAbs < 2 ^ 53) (hw : Hp w [bH] [(bH, s0 :: .float .f64 (w1 (some (a, b, c, d))) :: .float .f64 (w2 (some (a, b, c, d))) :: .float .f64 (w3 (some (a, b, c, d))) :: .float .f64 (w4 (some (a, b, c, d))) :: v5 :: v6 :: v7 :: v8 :: v9 :: v10 :: v11 :: v12 :: v13 :: .bool true :: wd, 99)] w) : Calls Tryz.prog 155 [.pointer (some ⟨bH, 0, none⟩), .agg #[.float .f64 (F x), .float .f64 (F y)]].toArray w (Out w [bH] (fun z : Unit => True) (fun z => .tuple #[]) (fun z => [(bH, s0 :: .float .f64 (w1 (enl (some (a, b, c, d)) x y)) :: .float .f64 (w2 (enl (some (a, b, c, d)) x y)) :: .float .f64 (w3 (enl (some (a, b, c, d)) x y)) :: .float .f64 (w4 (enl (some (a, b, c, d)) x y)) :: v5 :: v6 :: v7 :: v8 :: v9 :: v10 :: v11 :: v12 :: v13 :: .bool true :: wd, 99)])) := by
 refine enter (n := 27) Tryz.func155 rfl rfl rfl hw ?_
 refine cR ?_
 refine l_gives rfl rfl (g_box (vs := [_, _]) rfl rfl) rfl ?_
 intro b3 hb3
 refine nQ ?_
 refine c_seq ?_
 refine cR ?_
 refine lM rfl ?_
 refine lN rfl ?_
 refine lV (y_fieldAddr fo_97_9 rfl) ?_
 refine lV (y_load1 ld_4 rfl m1 rfl) ?_
 refine lV (y_not rfl) ?_
 refine nQ ?_
 refine c_false rfl rfl ?_
 refine kQ ?_
 refine c_draw [(b3, [.float .f64 (F x), .float .f64 (F y)], 50)] mixed rfl ?_
 refine dM 0 rfl rfl ?_
 refine dN 1 rfl rfl ?_
 refine dV 2 rfl (y_fieldAddr fo_97_1 rfl) ?_
 refine dV 3 rfl (y_loadN (vs := [_, _]) ld_50 rfl m0 rfl rfl) ?_
 refine d_ready (i := 4) (rs := []) (by kernel_rfl) (.cons .here .nil) (all_one ?_)
 refine o_call rfl (no_guard rfl) ok_158 rfl rfl (out_tail (A := [_]) (H1 := [(bH, s0 :: .float .f64 (w1 (some (a, b, c, d))) :: .float .f64 (w2 (some (a, b, c, d))) :: .float .f64 (w3 (some (a, b, c, d))) :: .float .f64 (w4 (some (a, b, c, d))) :: v5 :: v6 :: v7 :: v8 :: v9 :: v10 :: v11 :: v12 :: v13 :: .bool true :: wd, 99)]) (fun w1 ha_ hb_ => f158_any w1 bH a b c d x y s0 _ ha hb hc hd hx hy hb_)) ?_
 intro ⟨a2, b2, c2, d2⟩ ⟨e1, e2, e3, e4⟩
 simp only at e1 e2 e3 e4 ⊢
 subst e1 e2 e3 e4
 refine d_end (by kernel_rfl) (.cons .here .nil) ?_
 exact body_ret (rs := []) rfl (vs := []) trivial (out_end () trivial rfl (.skip .refl)) _ (.inl rfl)
theorem f155_any (w : World) (bH M : Nat) (bx : Bx) (x y : Int) (s0 v5 v6 v7 v8 v9 v10 v11 v12 v13 : Value) (wd : List Value) (hM : M < 2 ^ 53) (hbx : BxBd bx M) (hx : x.natAbs ≤ M) (hy : y.natAbs ≤ M) (hw : Hp w [bH] [(bH, s0 :: .float .f64 (w1 bx) :: .float .f64 (w2 bx) :: .float .f64 (w3 bx) :: .float .f64 (w4 bx) :: v5 :: v6 :: v7 :: v8 :: v9 :: v10 :: v11 :: v12 :: v13 :: .bool bx.isSome :: wd, 99)] w) : Calls Tryz.prog 155 [.pointer (some ⟨bH, 0, none⟩), .agg #[.float .f64 (F x), .float .f64 (F y)]].toArray w (Out w [bH] (fun z : Unit => True) (fun z => .tuple #[]) (fun z => [(bH, s0 :: .float .f64 (w1 (enl bx x y)) :: .float .f64 (w2 (enl bx x y)) :: .float .f64 (w3 (enl bx x y)) :: .float .f64 (w4 (enl bx x y)) :: v5 :: v6 :: v7 :: v8 :: v9 :: v10 :: v11 :: v12 :: v13 :: .bool (enl bx x y).isSome :: wd, 99)])) := by
  rcases bx with _ | ⟨a, b, c, d⟩
  · exact f155_none w bH x y s0 v5 v6 v7 v8 v9 v10 v11 v12 v13 wd (by omega) (by omega) hw
  · obtain ⟨h1, h2, h3, h4⟩ := hbx a b c d rfl
    exact f155_some w bH a b c d (by omega) (by omega) (by omega) (by omega) x y s0 v5 v6 v7 v8 v9 v10 v11 v12 v13 wd (by omega) (by omega) hw
set_option maxHeartbeats 4000000 in
theorem f142_any (w : World) (bH : Nat) (x y fx fy : Int) (out : List Stk) (so : Sv) (v1 v2 v3 v4 v5 v6 v7 : Value) (rest : List Value) (hx : x.natAbs < 2 ^ 53) (hy : y.natAbs < 2 ^ 53) (hfx : fx.natAbs < 2 ^ 53) (hfy : fy.natAbs < 2 ^ 53) (hok : slOk so out.length 7 (encG out)) (hlen : out.length ≤ 100000) (hw : Hp w (((bH, slV so out.length :: v1 :: v2 :: v3 :: v4 :: v5 :: v6 :: v7 :: .float .f64 (F x) :: .float .f64 (F y) :: .float .f64 (F fx) :: .float .f64 (F fy) :: rest, 99) :: slH so (encG out) 77).map (·.1)) ((bH, slV so out.length :: v1 :: v2 :: v3 :: v4 :: v5 :: v6 :: v7 :: .float .f64 (F x) :: .float .f64 (F y) :: .float .f64 (F fx) :: .float .f64 (F fy) :: rest, 99) :: slH so (encG out) 77) w) : Calls Tryz.prog 142 [.pointer (some ⟨bH, 0, none⟩)].toArray w (Out w (((bH, slV so out.length :: v1 :: v2 :: v3 :: v4 :: v5 :: v6 :: v7 :: .float .f64 (F x) :: .float .f64 (F y) :: .float .f64 (F fx) :: .float .f64 (F fy) :: rest, 99) :: slH so (encG out) 77).map (·.1)) (fun z : List Stk × Sv => z.1 = (bif (!(decide (fx = x) && decide (fy = y))) then out ++ [(stk1 1 fx fy)] else out) ∧ slOk z.2 z.1.length 7 (encG z.1)) (fun z => .tuple #[]) (fun z => (bH, slV z.2 z.1.length :: v1 :: v2 :: v3 :: v4 :: v5 :: v6 :: v7 :: .float .f64 (F x) :: .float .f64 (F y) :: .float .f64 (F fx) :: .float .f64 (F fy) :: rest, 99) :: slH z.2 (encG z.1) 77)) := by
 refine enter (n := 27) Tryz.func142 rfl rfl rfl hw ?_
 refine c_seq ?_
 refine c_drawH mixed rfl ?_
 refine dM 0 rfl rfl ?_
 refine dN 1 rfl rfl ?_
 refine dV 2 rfl (y_fieldAddr fo_97_6 rfl) ?_
 refine dV 3 rfl (y_loadN (vs := [_, _]) ld_50 rfl m0 rfl rfl) ?_
 refine dM 4 rfl rfl ?_
 refine dN 5 rfl rfl ?_
 refine dV 6 rfl (y_fieldAddr fo_97_5 rfl) ?_
 refine dV 7 rfl (y_loadN (vs := [_, _]) ld_50 rfl m0 rfl rfl) ?_
 refine dV 8 rfl (y_neqA eg50 (eqP50 hfx hfy hx hy) rfl rfl) ?_
 refine d_end (by kernel_rfl) (.cons .here .refl) ?_
 refine q_then ?_
 refine c_cond rfl (fun hc10 => ?_) (fun hc10 => ?_)
 ·refine c_draw [] mixed rfl ?_
  refine dM 0 rfl rfl ?_
  refine dM 1 rfl rfl ?_
  refine dN 2 rfl rfl ?_
  refine dV 3 rfl (y_fieldAddr fo_97_0 rfl) ?_
  refine dM 5 rfl rfl ?_
  refine dN 6 rfl rfl ?_
  refine dV 7 rfl (y_fieldAddr fo_97_6 rfl) ?_
  refine d_ready (i := 4) (rs := [8]) (by kernel_rfl) .nil (all_cons ?_ (all_one ?_))
  ·refine o_gives rfl rfl rfl (gy (y_load1 ld_48 rfl m0 rfl)) rfl ?_
   intro _ _
   refine d_ready (i := 8) (rs := []) (by kernel_rfl) .nil (all_one ?_)
   refine o_gives rfl rfl rfl (gy (y_loadN (vs := [_, _]) ld_50 rfl m0 rfl rfl)) rfl ?_
   intro _ _
   refine d_ready (i := 9) (rs := []) (by kernel_rfl) .nil (all_one ?_)
   refine o_call rfl (no_guard rfl) ok_111 rfl rfl (out_keep (fun w1 => f111_any w1 fx fy hfx hfy)) ?_
   intro _ _
   refine dV 10 rfl (y_buildArr (out := [_, _, _, _, _, _]) ap_75 rfl rfl rfl) ?_
   refine dV 11 rfl (y_build (out := [_, _, _, _, _, _, _]) bp_77 rfl rfl) ?_
   refine d_ready (i := 12) (rs := []) (by kernel_rfl) .nil (all_one ?_)
   refine o_gives rfl rfl rfl (g_buildSlice (cs := Stk.gcells (stk1 1 fx fy) ++ []) sl_48 sz_77 ze_77 rfl rfl rfl rfl (by simp [Value.cells]) rfl rfl) rfl ?_
   intro b23 hb23
   refine d_ready (i := 13) (rs := []) (by kernel_rfl) .nil (all_one ?_)
   refine o_gives rfl rfl rfl (g_appendT (by_ := 28) (news := Stk.gcells (stk1 1 fx fy)) (sy := []) ([_, _]) sl_48 inf_77 rfl rfl rfl rfl (by decide) rfl rfl hok (by rfl) m0 rfl (Stk.gone _) (by unfold maxLen; omega) (by omega)) rfl ?_
   intro so2 hok2
   rw [encG_snoc] at hok2 ⊢
   have e2 : out.length + 1 = (out ++ [(stk1 1 fx fy)]).length := by simp
   rw [e2] at hok2 ⊢
   refine dN 14 rfl rfl ?_
   refine dV 15 rfl (y_fieldAddr fo_97_0 rfl) ?_
   refine d_ready (i := 16) (rs := []) (by kernel_rfl) .nil (all_one ?_)
   refine o_does rfl rfl rfl (g_store1 (cs' := _ :: _) sz_48 rfl rfl (by first | rfl | exact slV_cells _ _ | exact fvV_cells _ _) rfl (by first | rfl | exact slV_one _ _ | exact fvV_one _ _) rfl (.there .here)) ?_
   intro _ _
   refine d_end (by kernel_rfl) .nil ?_
   exact body_ret (rs := []) rfl (vs := []) trivial (out_end (out ++ [(stk1 1 fx fy)], so2) ⟨by rw [hc10]; rfl, hok2⟩ rfl (.cons (.there .here) (.skip .refl))) _ (.inl rfl)
  ·refine o_gives rfl rfl rfl (gy (y_loadN (vs := [_, _]) ld_50 rfl m0 rfl rfl)) rfl ?_
   intro _ _
   refine d_ready (i := 4) (rs := [9]) (by kernel_rfl) .nil (all_cons ?_ (all_one ?_))
   ·refine o_gives rfl rfl rfl (gy (y_load1 ld_48 rfl m0 rfl)) rfl ?_
    intro _ _
    refine d_ready (i := 9) (rs := []) (by kernel_rfl) .nil (all_one ?_)
    refine o_call rfl (no_guard rfl) ok_111 rfl rfl (out_keep (fun w1 => f111_any w1 fx fy hfx hfy)) ?_
    intro _ _
    refine dV 10 rfl (y_buildArr (out := [_, _, _, _, _, _]) ap_75 rfl rfl rfl) ?_
    refine dV 11 rfl (y_build (out := [_, _, _, _, _, _, _]) bp_77 rfl rfl) ?_
    refine d_ready (i := 12) (rs := []) (by kernel_rfl) .nil (all_one ?_)
    refine o_gives rfl rfl rfl (g_buildSlice (cs := Stk.gcells (stk1 1 fx fy) ++ []) sl_48 sz_77 ze_77 rfl rfl rfl rfl (by simp [Value.cells]) rfl rfl) rfl ?_
    intro b23 hb23
    refine d_ready (i := 13) (rs := []) (by kernel_rfl) .nil (all_one ?_)
    refine o_gives rfl rfl rfl (g_appendT (by_ := 28) (news := Stk.gcells (stk1 1 fx fy)) (sy := []) ([_, _]) sl_48 inf_77 rfl rfl rfl rfl (by decide) rfl rfl hok (by rfl) m0 rfl (Stk.gone _) (by unfold maxLen; omega) (by omega)) rfl ?_
    intro so2 hok2
    rw [encG_snoc] at hok2 ⊢
    have e2 : out.length + 1 = (out ++ [(stk1 1 fx fy)]).length := by simp
    rw [e2] at hok2 ⊢
    refine dN 14 rfl rfl ?_
    refine dV 15 rfl (y_fieldAddr fo_97_0 rfl) ?_
    refine d_ready (i := 16) (rs := []) (by kernel_rfl) .nil (all_one ?_)
    refine o_does rfl rfl rfl (g_store1 (cs' := _ :: _) sz_48 rfl rfl (by first | rfl | exact slV_cells _ _ | exact fvV_cells _ _) rfl (by first | rfl | exact slV_one _ _ | exact fvV_one _ _) rfl (.there .here)) ?_
    intro _ _
    refine d_end (by kernel_rfl) .nil ?_
    exact body_ret (rs := []) rfl (vs := []) trivial (out_end (out ++ [(stk1 1 fx fy)], so2) ⟨by rw [hc10]; rfl, hok2⟩ rfl (.cons (.there .here) (.skip .refl))) _ (.inl rfl)
   ·refine o_call rfl (no_guard rfl) ok_111 rfl rfl (out_keep (fun w1 => f111_any w1 fx fy hfx hfy)) ?_
    intro _ _
    refine dV 10 rfl (y_buildArr (out := [_, _, _, _, _, _]) ap_75 rfl rfl rfl) ?_
    refine dV 11 rfl (y_build (out := [_, _, _, _, _, _, _]) bp_77 rfl rfl) ?_
    refine d_ready (i := 4) (rs := [12]) (by kernel_rfl) .nil (all_cons ?_ (all_one ?_))
    ·refine o_gives rfl rfl rfl (gy (y_load1 ld_48 rfl m0 rfl)) rfl ?_
     intro _ _
     refine d_ready (i := 12) (rs := []) (by kernel_rfl) .nil (all_one ?_)
     refine o_gives rfl rfl rfl (g_buildSlice (cs := Stk.gcells (stk1 1 fx fy) ++ []) sl_48 sz_77 ze_77 rfl rfl rfl rfl (by simp [Value.cells]) rfl rfl) rfl ?_
     intro b23 hb23
     refine d_ready (i := 13) (rs := []) (by kernel_rfl) .nil (all_one ?_)
     refine o_gives rfl rfl rfl (g_appendT (by_ := 28) (news := Stk.gcells (stk1 1 fx fy)) (sy := []) ([_, _]) sl_48 inf_77 rfl rfl rfl rfl (by decide) rfl rfl hok (by rfl) m0 rfl (Stk.gone _) (by unfold maxLen; omega) (by omega)) rfl ?_
     intro so2 hok2
     rw [encG_snoc] at hok2 ⊢
     have e2 : out.length + 1 = (out ++ [(stk1 1 fx fy)]).length := by simp
     rw [e2] at hok2 ⊢
     refine dN 14 rfl rfl ?_
     refine dV 15 rfl (y_fieldAddr fo_97_0 rfl) ?_
     refine d_ready (i := 16) (rs := []) (by kernel_rfl) .nil (all_one ?_)
     refine o_does rfl rfl rfl (g_store1 (cs' := _ :: _) sz_48 rfl rfl (by first | rfl | exact slV_cells _ _ | exact fvV_cells _ _) rfl (by first | rfl | exact slV_one _ _ | exact fvV_one _ _) rfl (.there .here)) ?_
     intro _ _
     refine d_end (by kernel_rfl) .nil ?_
     exact body_ret (rs := []) rfl (vs := []) trivial (out_end (out ++ [(stk1 1 fx fy)], so2) ⟨by rw [hc10]; rfl, hok2⟩ rfl (.cons (.there .here) (.skip .refl))) _ (.inl rfl)
    ·refine o_gives rfl rfl rfl (g_buildSlice (cs := Stk.gcells (stk1 1 fx fy) ++ []) sl_48 sz_77 ze_77 rfl rfl rfl rfl (by simp [Value.cells]) rfl rfl) rfl ?_
     intro b23 hb23
     refine d_ready (i := 4) (rs := []) (by kernel_rfl) .nil (all_one ?_)
     refine o_gives rfl rfl rfl (gy (y_load1 ld_48 rfl m1 rfl)) rfl ?_
     intro _ _
     refine d_ready (i := 13) (rs := []) (by kernel_rfl) .nil (all_one ?_)
     refine o_gives rfl rfl rfl (g_appendT (by_ := 28) (news := Stk.gcells (stk1 1 fx fy)) (sy := []) ([_, _]) sl_48 inf_77 rfl rfl rfl rfl (by decide) rfl rfl hok (by rfl) m0 rfl (Stk.gone _) (by unfold maxLen; omega) (by omega)) rfl ?_
     intro so2 hok2
     rw [encG_snoc] at hok2 ⊢
     have e2 : out.length + 1 = (out ++ [(stk1 1 fx fy)]).length := by simp
     rw [e2] at hok2 ⊢
     refine dN 14 rfl rfl ?_
     refine dV 15 rfl (y_fieldAddr fo_97_0 rfl) ?_
     refine d_ready (i := 16) (rs := []) (by kernel_rfl) .nil (all_one ?_)
     refine o_does rfl rfl rfl (g_store1 (cs' := _ :: _) sz_48 rfl rfl (by first | rfl | exact slV_cells _ _ | exact fvV_cells _ _) rfl (by first | rfl | exact slV_one _ _ | exact fvV_one _ _) rfl (.there .here)) ?_
     intro _ _
     refine d_end (by kernel_rfl) .nil ?_
     exact body_ret (rs := []) rfl (vs := []) trivial (out_end (out ++ [(stk1 1 fx fy)], so2) ⟨by rw [hc10]; rfl, hok2⟩ rfl (.cons (.there .here) (.skip .refl))) _ (.inl rfl)
 ·refine c_skip ?_
  exact body_ret (rs := []) rfl (vs := []) trivial (out_end (out, so) ⟨by rw [hc10]; rfl, hok⟩ rfl (.cons .here .refl)) _ (.inl rfl)
end Go.Proofs.YtbepljmeflndkaaGreatDoor
namespace Go.Proofs.YtbepljmeflndkaaGreatDoor
open Go.Eng Go.Fl
set_option maxRecDepth 100000
attribute [local irreducible] IntKind.wrap Int.tdiv Int.tmod Int.emod maxLen F G
set_option maxHeartbeats 4000000 in
theorem f149_any (w : World) (bH M : Nat) (q : QSt) (so : Sv) (v5 v6 v7 v13 : Value) (wd : List Value) (hM : M < 2 ^ 53) (hB : q.Bd M) (X Y : Int) (hX : X.natAbs ≤ M) (hY : Y.natAbs ≤ M) (hok : slOk so q.out.length 7 (encG q.out)) (hlen : q.out.length ≤ 90000) (hw : Hp w (((HB bH so q.out.length q.bx v5 v6 v7 q.x q.y q.fx q.fy q.io v13 ((q.bx).isSome) wd) :: slH so (encG q.out) 77).map (·.1)) ((HB bH so q.out.length q.bx v5 v6 v7 q.x q.y q.fx q.fy q.io v13 ((q.bx).isSome) wd) :: slH so (encG q.out) 77) w) : Calls Tryz.prog 149 [.pointer (some ⟨bH, 0, none⟩), .agg #[.float .f64 (F X), .float .f64 (F Y)]].toArray w (Out w (((HB bH so q.out.length q.bx v5 v6 v7 q.x q.y q.fx q.fy q.io v13 ((q.bx).isSome) wd) :: slH so (encG q.out) 77).map (·.1)) (fun z : Sv => slOk z (lineA q X Y).out.length 7 (encG (lineA q X Y).out)) (fun z => .tuple #[]) (fun z => (HB bH z (lineA q X Y).out.length ((lineA q X Y).bx) v5 v6 v7 ((lineA q X Y).x) ((lineA q X Y).y) ((lineA q X Y).fx) ((lineA q X Y).fy) ((lineA q X Y).io) v13 (((lineA q X Y).bx).isSome) wd) :: slH z (encG (lineA q X Y).out) 77)) := by
 refine enter (n := 38) Tryz.func149 rfl rfl rfl hw ?_
 refine cR ?_
 refine l_gives rfl rfl (g_box (vs := [_, _]) rfl rfl) rfl ?_
 intro b3 hb3
 refine nQ ?_
 refine c_seq ?_
 refine cR ?_
 refine lM rfl ?_
 refine lN rfl ?_
 refine lV (y_fieldAddr fo_97_7 rfl) ?_
 refine lV (y_load1 ld_4 rfl m1 rfl) ?_
 refine lV (y_not rfl) ?_
 refine nQ ?_
 refine c_cut (ι := Bool × Bx) (φ := fun z => z.1 = true ∧ z.2 = beg q) (L' := fun _ => [(0, .pointer (some ⟨bH, 0, none⟩)), (3, .pointer (some ⟨b3, 0, none⟩))]) (H' := fun z => (b3, [.float .f64 (F X), .float .f64 (F Y)], 50) :: (HB bH so q.out.length z.2 v5 v6 v7 q.x q.y q.fx q.fy z.1 v13 ((z.2).isSome) wd) :: slH so (encG q.out) 77) ?_ ?_
 ·refine c_cond rfl (fun hc8 => ?_) (fun hc8 => ?_)
  ·refine cR ?_
   refine lM rfl ?_
   refine lN rfl ?_
   refine lV (y_fieldAddr fo_97_7 rfl) ?_
   refine l_does rfl rfl (g_store1 (cs' := _ :: _ :: _ :: _ :: _ :: _ :: _ :: _ :: _ :: _ :: _ :: _ :: _ :: _) sz_4 rfl rfl (by first | rfl | exact slV_cells _ _ | exact fvV_cells _ _) rfl (by first | rfl | exact slV_one _ _ | exact fvV_one _ _) rfl (.there .here)) ?_
   intro _ _
   refine nG ?_
   refine lM rfl ?_
   refine lM rfl ?_
   refine lN rfl ?_
   refine lV (y_fieldAddr fo_97_5 rfl) ?_
   refine lV (y_loadN (vs := [_, _]) ld_50 rfl m1 rfl rfl) ?_
   refine l_call ok_155 rfl rfl (out_one [_] (b := (HB bH so q.out.length q.bx v5 v6 v7 q.x q.y q.fx q.fy true v13 ((q.bx).isSome) wd)) (fun w1 ha_ hb_ => f155_any w1 bH M q.bx q.x q.y _ _ _ _ _ _ _ _ _ _ _ hM hB.bx hB.x hB.y hb_)) ?_
   intro _ _
   refine l_nil ?_
   exact q_cut (true, enl q.bx q.x q.y) ⟨rfl, by unfold beg; rw [show q.io = false by simpa using hc8]; rfl⟩ ⟨rfl, rfl, trivial⟩ (.cons .here (.cons .here .refl))
  ·refine c_skip ?_
   exact q_cut (q.io, q.bx) ⟨by simpa using hc8, by unfold beg; rw [show q.io = true by simpa using hc8]; rfl⟩ ⟨rfl, rfl, trivial⟩ (.cons .here (.cons .here .refl))
 intro ⟨io1, bx1⟩ ⟨hio1, hbx1⟩
 simp only at hio1 hbx1 ⊢
 subst hio1 hbx1
 refine qR ?_
 refine lM rfl ?_
 refine lV (y_loadN (vs := [_, _]) ld_50 rfl m0 rfl rfl) ?_
 refine lN rfl ?_
 refine lV (y_fieldAddr fo_97_5 rfl) ?_
 refine l_does rfl rfl (g_storeN (vs := [_, _]) (cs' := _ :: _ :: _ :: _ :: _ :: _ :: _ :: _ :: _ :: _ :: _) sz_50 rfl rfl rfl rfl rfl rfl rfl (.there .here)) ?_
 intro _ _
 refine nR ?_
 refine lM rfl ?_
 refine lV (y_loadN (vs := [_, _]) ld_50 rfl m0 rfl rfl) ?_
 refine l_call ok_155 rfl rfl (out_one [_] (b := (HB bH so q.out.length (beg q) v5 v6 v7 X Y q.fx q.fy true v13 (((beg q)).isSome) wd)) (fun w1 ha_ hb_ => f155_any w1 bH M (beg q) X Y _ _ _ _ _ _ _ _ _ _ _ hM (beg_bd hB) hX hY hb_)) ?_
 intro _ _
 refine nQ ?_
 refine c_draw [(b3, [.float .f64 (F X), .float .f64 (F Y)], 50)] mixed rfl ?_
 refine dM 0 rfl rfl ?_
 refine dM 1 rfl rfl ?_
 refine dN 2 rfl rfl ?_
 refine dV 3 rfl (y_fieldAddr fo_97_0 rfl) ?_
 refine dV 5 rfl (y_loadN (vs := [_, _]) ld_50 rfl m0 rfl rfl) ?_
 refine d_ready (i := 4) (rs := [6]) (by kernel_rfl) (.cons .here .nil) (all_cons ?_ (all_one ?_))
 ·refine o_gives rfl rfl rfl (gy (y_load1 ld_48 rfl m1 rfl)) rfl ?_
  intro _ _
  refine d_ready (i := 6) (rs := []) (by kernel_rfl) (.cons .here .nil) (all_one ?_)
  refine o_call rfl (no_guard rfl) ok_111 rfl rfl (out_keep (fun w1 => f111_any w1 X Y (by omega) (by omega))) ?_
  intro _ _
  refine dV 7 rfl (y_buildArr (out := [_, _, _, _, _, _]) ap_75 rfl rfl rfl) ?_
  refine dV 8 rfl (y_build (out := [_, _, _, _, _, _, _]) bp_77 rfl rfl) ?_
  refine d_ready (i := 9) (rs := []) (by kernel_rfl) (.cons .here .nil) (all_one ?_)
  refine o_gives rfl rfl rfl (g_buildSlice (cs := Stk.gcells (stk1 1 X Y) ++ []) sl_48 sz_77 ze_77 rfl rfl rfl rfl (by simp [Value.cells]) rfl rfl) rfl ?_
  intro b34 hb34
  refine d_ready (i := 10) (rs := []) (by kernel_rfl) (.cons (.there .here) .nil) (all_one ?_)
  refine o_gives rfl rfl rfl (g_appendT (by_ := 28) (news := Stk.gcells (stk1 1 X Y)) (sy := []) ([_, _, _]) sl_48 inf_77 rfl rfl rfl rfl (by decide) rfl rfl hok (by rfl) m0 rfl (Stk.gone _) (by unfold maxLen; omega) (by omega)) rfl ?_
  intro so2 hok2
  rw [encG_snoc] at hok2 ⊢
  have e2 : q.out.length + 1 = (q.out ++ [(stk1 1 X Y)]).length := by simp
  rw [e2] at hok2 ⊢
  refine dN 11 rfl rfl ?_
  refine dV 12 rfl (y_fieldAddr fo_97_0 rfl) ?_
  refine d_ready (i := 13) (rs := []) (by kernel_rfl) (.cons (.there .here) .nil) (all_one ?_)
  refine o_does rfl rfl rfl (g_store1 (cs' := _ :: _) sz_48 rfl rfl (by first | rfl | exact slV_cells _ _ | exact fvV_cells _ _) rfl (by first | rfl | exact slV_one _ _ | exact fvV_one _ _) rfl (.there (.there .here))) ?_
  intro _ _
  refine d_end (by kernel_rfl) (.cons (.there .here) .nil) ?_
  exact body_ret (rs := []) rfl (vs := []) trivial (out_end so2 hok2 rfl (.cons (.there (.there .here)) (.skip (.skip .refl)))) _ (.inl rfl)
 ·refine o_call rfl (no_guard rfl) ok_111 rfl rfl (out_keep (fun w1 => f111_any w1 X Y (by omega) (by omega))) ?_
  intro _ _
  refine dV 7 rfl (y_buildArr (out := [_, _, _, _, _, _]) ap_75 rfl rfl rfl) ?_
  refine dV 8 rfl (y_build (out := [_, _, _, _, _, _, _]) bp_77 rfl rfl) ?_
  refine d_ready (i := 4) (rs := [9]) (by kernel_rfl) (.cons .here .nil) (all_cons ?_ (all_one ?_))
  ·refine o_gives rfl rfl rfl (gy (y_load1 ld_48 rfl m1 rfl)) rfl ?_
   intro _ _
   refine d_ready (i := 9) (rs := []) (by kernel_rfl) (.cons .here .nil) (all_one ?_)
   refine o_gives rfl rfl rfl (g_buildSlice (cs := Stk.gcells (stk1 1 X Y) ++ []) sl_48 sz_77 ze_77 rfl rfl rfl rfl (by simp [Value.cells]) rfl rfl) rfl ?_
   intro b34 hb34
   refine d_ready (i := 10) (rs := []) (by kernel_rfl) (.cons (.there .here) .nil) (all_one ?_)
   refine o_gives rfl rfl rfl (g_appendT (by_ := 28) (news := Stk.gcells (stk1 1 X Y)) (sy := []) ([_, _, _]) sl_48 inf_77 rfl rfl rfl rfl (by decide) rfl rfl hok (by rfl) m0 rfl (Stk.gone _) (by unfold maxLen; omega) (by omega)) rfl ?_
   intro so2 hok2
   rw [encG_snoc] at hok2 ⊢
   have e2 : q.out.length + 1 = (q.out ++ [(stk1 1 X Y)]).length := by simp
   rw [e2] at hok2 ⊢
   refine dN 11 rfl rfl ?_
   refine dV 12 rfl (y_fieldAddr fo_97_0 rfl) ?_
   refine d_ready (i := 13) (rs := []) (by kernel_rfl) (.cons (.there .here) .nil) (all_one ?_)
   refine o_does rfl rfl rfl (g_store1 (cs' := _ :: _) sz_48 rfl rfl (by first | rfl | exact slV_cells _ _ | exact fvV_cells _ _) rfl (by first | rfl | exact slV_one _ _ | exact fvV_one _ _) rfl (.there (.there .here))) ?_
   intro _ _
   refine d_end (by kernel_rfl) (.cons (.there .here) .nil) ?_
   exact body_ret (rs := []) rfl (vs := []) trivial (out_end so2 hok2 rfl (.cons (.there (.there .here)) (.skip (.skip .refl)))) _ (.inl rfl)
  ·refine o_gives rfl rfl rfl (g_buildSlice (cs := Stk.gcells (stk1 1 X Y) ++ []) sl_48 sz_77 ze_77 rfl rfl rfl rfl (by simp [Value.cells]) rfl rfl) rfl ?_
   intro b34 hb34
   refine d_ready (i := 4) (rs := []) (by kernel_rfl) (.cons (.there .here) .nil) (all_one ?_)
   refine o_gives rfl rfl rfl (gy (y_load1 ld_48 rfl m2 rfl)) rfl ?_
   intro _ _
   refine d_ready (i := 10) (rs := []) (by kernel_rfl) (.cons (.there .here) .nil) (all_one ?_)
   refine o_gives rfl rfl rfl (g_appendT (by_ := 28) (news := Stk.gcells (stk1 1 X Y)) (sy := []) ([_, _, _]) sl_48 inf_77 rfl rfl rfl rfl (by decide) rfl rfl hok (by rfl) m0 rfl (Stk.gone _) (by unfold maxLen; omega) (by omega)) rfl ?_
   intro so2 hok2
   rw [encG_snoc] at hok2 ⊢
   have e2 : q.out.length + 1 = (q.out ++ [(stk1 1 X Y)]).length := by simp
   rw [e2] at hok2 ⊢
   refine dN 11 rfl rfl ?_
   refine dV 12 rfl (y_fieldAddr fo_97_0 rfl) ?_
   refine d_ready (i := 13) (rs := []) (by kernel_rfl) (.cons (.there .here) .nil) (all_one ?_)
   refine o_does rfl rfl rfl (g_store1 (cs' := _ :: _) sz_48 rfl rfl (by first | rfl | exact slV_cells _ _ | exact fvV_cells _ _) rfl (by first | rfl | exact slV_one _ _ | exact fvV_one _ _) rfl (.there (.there .here))) ?_
   intro _ _
   refine d_end (by kernel_rfl) (.cons (.there .here) .nil) ?_
   exact body_ret (rs := []) rfl (vs := []) trivial (out_end so2 hok2 rfl (.cons (.there (.there .here)) (.skip (.skip .refl)))) _ (.inl rfl)
set_option maxHeartbeats 8000000 in
theorem f151_any (w : World) (bH M : Nat) (q : QSt) (so : Sv) (v5 v6 v7 v13 : Value) (wd : List Value) (hM : M < 2 ^ 53) (hB : q.Bd M) (X0 Y0 X1 Y1 X2 Y2 : Int) (hX0 : X0.natAbs ≤ M) (hY0 : Y0.natAbs ≤ M) (hX1 : X1.natAbs ≤ M) (hY1 : Y1.natAbs ≤ M) (hX2 : X2.natAbs ≤ M) (hY2 : Y2.natAbs ≤ M) (hok : slOk so q.out.length 7 (encG q.out)) (hlen : q.out.length ≤ 90000) (hw : Hp w (((HB bH so q.out.length q.bx v5 v6 v7 q.x q.y q.fx q.fy q.io v13 ((q.bx).isSome) wd) :: slH so (encG q.out) 77).map (·.1)) ((HB bH so q.out.length q.bx v5 v6 v7 q.x q.y q.fx q.fy q.io v13 ((q.bx).isSome) wd) :: slH so (encG q.out) 77) w) : Calls Tryz.prog 151 [.pointer (some ⟨bH, 0, none⟩), .agg #[.float .f64 (F X0), .float .f64 (F Y0)], .agg #[.float .f64 (F X1), .float .f64 (F Y1)], .agg #[.float .f64 (F X2), .float .f64 (F Y2)]].toArray w (Out w (((HB bH so q.out.length q.bx v5 v6 v7 q.x q.y q.fx q.fy q.io v13 ((q.bx).isSome) wd) :: slH so (encG q.out) 77).map (·.1)) (fun z : Sv => slOk z (curveA q X0 Y0 X1 Y1 X2 Y2).out.length 7 (encG (curveA q X0 Y0 X1 Y1 X2 Y2).out)) (fun z => .tuple #[]) (fun z => (HB bH z (curveA q X0 Y0 X1 Y1 X2 Y2).out.length ((curveA q X0 Y0 X1 Y1 X2 Y2).bx) v5 v6 v7 ((curveA q X0 Y0 X1 Y1 X2 Y2).x) ((curveA q X0 Y0 X1 Y1 X2 Y2).y) ((curveA q X0 Y0 X1 Y1 X2 Y2).fx) ((curveA q X0 Y0 X1 Y1 X2 Y2).fy) ((curveA q X0 Y0 X1 Y1 X2 Y2).io) v13 (((curveA q X0 Y0 X1 Y1 X2 Y2).bx).isSome) wd) :: slH z (encG (curveA q X0 Y0 X1 Y1 X2 Y2).out) 77)) := by
 refine enter (n := 52) Tryz.func151 rfl rfl rfl hw ?_
 refine cR ?_
 refine l_gives rfl rfl (g_box (vs := [_, _]) rfl rfl) rfl ?_
 intro b5 hb5
 refine l_gives rfl rfl (g_box (vs := [_, _]) rfl rfl) rfl ?_
 intro b6 hb6
 refine l_gives rfl rfl (g_box (vs := [_, _]) rfl rfl) rfl ?_
 intro b7 hb7
 refine nQ ?_
 refine c_seq ?_
 refine cR ?_
 refine lM rfl ?_
 refine lN rfl ?_
 refine lV (y_fieldAddr fo_97_7 rfl) ?_
 refine lV (y_load1 ld_4 rfl m3 rfl) ?_
 refine lV (y_not rfl) ?_
 refine nQ ?_
 refine c_cut (ι := Bool × Bx) (φ := fun z => z.1 = true ∧ z.2 = beg q) (L' := fun _ => [(0, .pointer (some ⟨bH, 0, none⟩)), (5, .pointer (some ⟨b5, 0, none⟩)), (6, .pointer (some ⟨b6, 0, none⟩)), (7, .pointer (some ⟨b7, 0, none⟩))]) (H' := fun z => (b7, [.float .f64 (F X2), .float .f64 (F Y2)], 50) :: (b6, [.float .f64 (F X1), .float .f64 (F Y1)], 50) :: (b5, [.float .f64 (F X0), .float .f64 (F Y0)], 50) :: (HB bH so q.out.length z.2 v5 v6 v7 q.x q.y q.fx q.fy z.1 v13 ((z.2).isSome) wd) :: slH so (encG q.out) 77) ?_ ?_
 ·refine c_cond rfl (fun hc12 => ?_) (fun hc12 => ?_)
  ·refine cR ?_
   refine lM rfl ?_
   refine lN rfl ?_
   refine lV (y_fieldAddr fo_97_7 rfl) ?_
   refine l_does rfl rfl (g_store1 (cs' := _ :: _ :: _ :: _ :: _ :: _ :: _ :: _ :: _ :: _ :: _ :: _ :: _ :: _) sz_4 rfl rfl (by first | rfl | exact slV_cells _ _ | exact fvV_cells _ _) rfl (by first | rfl | exact slV_one _ _ | exact fvV_one _ _) rfl (.there (.there (.there .here)))) ?_
   intro _ _
   refine nG ?_
   refine lM rfl ?_
   refine lM rfl ?_
   refine lN rfl ?_
   refine lV (y_fieldAddr fo_97_5 rfl) ?_
   refine lV (y_loadN (vs := [_, _]) ld_50 rfl m3 rfl rfl) ?_
   refine l_call ok_155 rfl rfl (out_one [_, _, _] (b := (HB bH so q.out.length q.bx v5 v6 v7 q.x q.y q.fx q.fy true v13 ((q.bx).isSome) wd)) (fun w1 ha_ hb_ => f155_any w1 bH M q.bx q.x q.y _ _ _ _ _ _ _ _ _ _ _ hM hB.bx hB.x hB.y hb_)) ?_
   intro _ _
   refine l_nil ?_
   exact q_cut (true, enl q.bx q.x q.y) ⟨rfl, by unfold beg; rw [show q.io = false by simpa using hc12]; rfl⟩ ⟨rfl, rfl, rfl, rfl, trivial⟩ (.cons .here (.cons .here (.cons .here (.cons .here .refl))))
  ·refine c_skip ?_
   exact q_cut (q.io, q.bx) ⟨by simpa using hc12, by unfold beg; rw [show q.io = true by simpa using hc12]; rfl⟩ ⟨rfl, rfl, rfl, rfl, trivial⟩ (.cons .here (.cons .here (.cons .here (.cons .here .refl))))
 intro ⟨io1, bx1⟩ ⟨hio1, hbx1⟩
 simp only at hio1 hbx1 ⊢
 subst hio1 hbx1
 refine qR ?_
 refine lM rfl ?_
 refine lV (y_loadN (vs := [_, _]) ld_50 rfl m2 rfl rfl) ?_
 refine l_call ok_155 rfl rfl (out_one [_, _, _] (b := (HB bH so q.out.length (beg q) v5 v6 v7 q.x q.y q.fx q.fy true v13 (((beg q)).isSome) wd)) (fun w1 ha_ hb_ => f155_any w1 bH M (beg q) X0 Y0 _ _ _ _ _ _ _ _ _ _ _ hM (beg_bd hB) hX0 hY0 hb_)) ?_
 intro _ _
 refine nR ?_
 refine lM rfl ?_
 refine lV (y_loadN (vs := [_, _]) ld_50 rfl m1 rfl rfl) ?_
 refine l_call ok_155 rfl rfl (out_one [_, _, _] (b := (HB bH so q.out.length (enl (beg q) X0 Y0) v5 v6 v7 q.x q.y q.fx q.fy true v13 (((enl (beg q) X0 Y0)).isSome) wd)) (fun w1 ha_ hb_ => f155_any w1 bH M (enl (beg q) X0 Y0) X1 Y1 _ _ _ _ _ _ _ _ _ _ _ hM ((beg_bd hB).enl hX0 hY0) hX1 hY1 hb_)) ?_
 intro _ _
 refine nR ?_
 refine lM rfl ?_
 refine lV (y_loadN (vs := [_, _]) ld_50 rfl m0 rfl rfl) ?_
 refine lN rfl ?_
 refine lV (y_fieldAddr fo_97_5 rfl) ?_
 refine l_does rfl rfl (g_storeN (vs := [_, _]) (cs' := _ :: _ :: _ :: _ :: _ :: _ :: _ :: _ :: _ :: _ :: _) sz_50 rfl rfl rfl rfl rfl rfl rfl (.there (.there (.there .here)))) ?_
 intro _ _
 refine nR ?_
 refine lM rfl ?_
 refine lV (y_loadN (vs := [_, _]) ld_50 rfl m0 rfl rfl) ?_
 refine l_call ok_155 rfl rfl (out_one [_, _, _] (b := (HB bH so q.out.length (enl (enl (beg q) X0 Y0) X1 Y1) v5 v6 v7 X2 Y2 q.fx q.fy true v13 (((enl (enl (beg q) X0 Y0) X1 Y1)).isSome) wd)) (fun w1 ha_ hb_ => f155_any w1 bH M (enl (enl (beg q) X0 Y0) X1 Y1) X2 Y2 _ _ _ _ _ _ _ _ _ _ _ hM (((beg_bd hB).enl hX0 hY0).enl hX1 hY1) hX2 hY2 hb_)) ?_
 intro _ _
 refine nQ ?_
 refine c_draw [(b7, [.float .f64 (F X2), .float .f64 (F Y2)], 50), (b6, [.float .f64 (F X1), .float .f64 (F Y1)], 50), (b5, [.float .f64 (F X0), .float .f64 (F Y0)], 50)] mixed rfl ?_
 refine dM 0 rfl rfl ?_
 refine dM 1 rfl rfl ?_
 refine dN 2 rfl rfl ?_
 refine dV 3 rfl (y_fieldAddr fo_97_0 rfl) ?_
 refine dV 5 rfl (y_loadN (vs := [_, _]) ld_50 rfl m2 rfl rfl) ?_
 refine dV 7 rfl (y_loadN (vs := [_, _]) ld_50 rfl m1 rfl rfl) ?_
 refine dV 9 rfl (y_loadN (vs := [_, _]) ld_50 rfl m0 rfl rfl) ?_
 refine d_ready (i := 4) (rs := [6]) (by kernel_rfl) (.cons .here (.cons .here (.cons .here .nil))) (all_cons ?_ (all_one ?_))
 ·refine o_gives rfl rfl rfl (gy (y_load1 ld_48 rfl m3 rfl)) rfl ?_
  intro _ _
  refine d_ready (i := 6) (rs := []) (by kernel_rfl) (.cons .here (.cons .here (.cons .here .nil))) (all_one ?_)
  refine o_call rfl (no_guard rfl) ok_111 rfl rfl (out_keep (fun w1 => f111_any w1 X0 Y0 (by omega) (by omega))) ?_
  intro _ _
  refine d_ready (i := 8) (rs := []) (by kernel_rfl) (.cons .here (.cons .here (.cons .here .nil))) (all_one ?_)
  refine o_call rfl (no_guard rfl) ok_111 rfl rfl (out_keep (fun w1 => f111_any w1 X1 Y1 (by omega) (by omega))) ?_
  intro _ _
  refine d_ready (i := 10) (rs := []) (by kernel_rfl) (.cons .here (.cons .here (.cons .here .nil))) (all_one ?_)
  refine o_call rfl (no_guard rfl) ok_111 rfl rfl (out_keep (fun w1 => f111_any w1 X2 Y2 (by omega) (by omega))) ?_
  intro _ _
  refine dV 11 rfl (y_buildArr (out := [_, _, _, _, _, _]) ap_75 rfl rfl rfl) ?_
  refine dV 12 rfl (y_build (out := [_, _, _, _, _, _, _]) bp_77 rfl rfl) ?_
  refine d_ready (i := 13) (rs := []) (by kernel_rfl) (.cons .here (.cons .here (.cons .here .nil))) (all_one ?_)
  refine o_gives rfl rfl rfl (g_buildSlice (cs := Stk.gcells (stk3 3 X0 Y0 X1 Y1 X2 Y2) ++ []) sl_48 sz_77 ze_77 rfl rfl rfl rfl (by simp [Value.cells]) rfl rfl) rfl ?_
  intro b48 hb48
  refine d_ready (i := 14) (rs := []) (by kernel_rfl) (.cons (.there .here) (.cons (.there .here) (.cons (.there .here) .nil))) (all_one ?_)
  refine o_gives rfl rfl rfl (g_appendT (by_ := 28) (news := Stk.gcells (stk3 3 X0 Y0 X1 Y1 X2 Y2)) (sy := []) ([_, _, _, _, _]) sl_48 inf_77 rfl rfl rfl rfl (by decide) rfl rfl hok (by rfl) m0 rfl (Stk.gone _) (by unfold maxLen; omega) (by omega)) rfl ?_
  intro so2 hok2
  rw [encG_snoc] at hok2 ⊢
  have e2 : q.out.length + 1 = (q.out ++ [(stk3 3 X0 Y0 X1 Y1 X2 Y2)]).length := by simp
  rw [e2] at hok2 ⊢
  refine dN 15 rfl rfl ?_
  refine dV 16 rfl (y_fieldAddr fo_97_0 rfl) ?_
  refine d_ready (i := 17) (rs := []) (by kernel_rfl) (.cons (.there .here) (.cons (.there .here) (.cons (.there .here) .nil))) (all_one ?_)
  refine o_does rfl rfl rfl (g_store1 (cs' := _ :: _) sz_48 rfl rfl (by first | rfl | exact slV_cells _ _ | exact fvV_cells _ _) rfl (by first | rfl | exact slV_one _ _ | exact fvV_one _ _) rfl (.there (.there (.there (.there .here))))) ?_
  intro _ _
  refine d_end (by kernel_rfl) (.cons (.there .here) (.cons (.there .here) (.cons (.there .here) .nil))) ?_
  exact body_ret (rs := []) rfl (vs := []) trivial (out_end so2 hok2 rfl (.cons (.there (.there (.there (.there .here)))) (.skip (.skip (.skip (.skip .refl)))))) _ (.inl rfl)
 ·refine o_call rfl (no_guard rfl) ok_111 rfl rfl (out_keep (fun w1 => f111_any w1 X0 Y0 (by omega) (by omega))) ?_
  intro _ _
  refine d_ready (i := 4) (rs := [8]) (by kernel_rfl) (.cons .here (.cons .here (.cons .here .nil))) (all_cons ?_ (all_one ?_))
  ·refine o_gives rfl rfl rfl (gy (y_load1 ld_48 rfl m3 rfl)) rfl ?_
   intro _ _
   refine d_ready (i := 8) (rs := []) (by kernel_rfl) (.cons .here (.cons .here (.cons .here .nil))) (all_one ?_)
   refine o_call rfl (no_guard rfl) ok_111 rfl rfl (out_keep (fun w1 => f111_any w1 X1 Y1 (by omega) (by omega))) ?_
   intro _ _
   refine d_ready (i := 10) (rs := []) (by kernel_rfl) (.cons .here (.cons .here (.cons .here .nil))) (all_one ?_)
   refine o_call rfl (no_guard rfl) ok_111 rfl rfl (out_keep (fun w1 => f111_any w1 X2 Y2 (by omega) (by omega))) ?_
   intro _ _
   refine dV 11 rfl (y_buildArr (out := [_, _, _, _, _, _]) ap_75 rfl rfl rfl) ?_
   refine dV 12 rfl (y_build (out := [_, _, _, _, _, _, _]) bp_77 rfl rfl) ?_
   refine d_ready (i := 13) (rs := []) (by kernel_rfl) (.cons .here (.cons .here (.cons .here .nil))) (all_one ?_)
   refine o_gives rfl rfl rfl (g_buildSlice (cs := Stk.gcells (stk3 3 X0 Y0 X1 Y1 X2 Y2) ++ []) sl_48 sz_77 ze_77 rfl rfl rfl rfl (by simp [Value.cells]) rfl rfl) rfl ?_
   intro b48 hb48
   refine d_ready (i := 14) (rs := []) (by kernel_rfl) (.cons (.there .here) (.cons (.there .here) (.cons (.there .here) .nil))) (all_one ?_)
   refine o_gives rfl rfl rfl (g_appendT (by_ := 28) (news := Stk.gcells (stk3 3 X0 Y0 X1 Y1 X2 Y2)) (sy := []) ([_, _, _, _, _]) sl_48 inf_77 rfl rfl rfl rfl (by decide) rfl rfl hok (by rfl) m0 rfl (Stk.gone _) (by unfold maxLen; omega) (by omega)) rfl ?_
   intro so2 hok2
   rw [encG_snoc] at hok2 ⊢
   have e2 : q.out.length + 1 = (q.out ++ [(stk3 3 X0 Y0 X1 Y1 X2 Y2)]).length := by simp
   rw [e2] at hok2 ⊢
   refine dN 15 rfl rfl ?_
   refine dV 16 rfl (y_fieldAddr fo_97_0 rfl) ?_
   refine d_ready (i := 17) (rs := []) (by kernel_rfl) (.cons (.there .here) (.cons (.there .here) (.cons (.there .here) .nil))) (all_one ?_)
   refine o_does rfl rfl rfl (g_store1 (cs' := _ :: _) sz_48 rfl rfl (by first | rfl | exact slV_cells _ _ | exact fvV_cells _ _) rfl (by first | rfl | exact slV_one _ _ | exact fvV_one _ _) rfl (.there (.there (.there (.there .here))))) ?_
   intro _ _
   refine d_end (by kernel_rfl) (.cons (.there .here) (.cons (.there .here) (.cons (.there .here) .nil))) ?_
   exact body_ret (rs := []) rfl (vs := []) trivial (out_end so2 hok2 rfl (.cons (.there (.there (.there (.there .here)))) (.skip (.skip (.skip (.skip .refl)))))) _ (.inl rfl)
  ·refine o_call rfl (no_guard rfl) ok_111 rfl rfl (out_keep (fun w1 => f111_any w1 X1 Y1 (by omega) (by omega))) ?_
   intro _ _
   refine d_ready (i := 4) (rs := [10]) (by kernel_rfl) (.cons .here (.cons .here (.cons .here .nil))) (all_cons ?_ (all_one ?_))
   ·refine o_gives rfl rfl rfl (gy (y_load1 ld_48 rfl m3 rfl)) rfl ?_
    intro _ _
    refine d_ready (i := 10) (rs := []) (by kernel_rfl) (.cons .here (.cons .here (.cons .here .nil))) (all_one ?_)
    refine o_call rfl (no_guard rfl) ok_111 rfl rfl (out_keep (fun w1 => f111_any w1 X2 Y2 (by omega) (by omega))) ?_
    intro _ _
    refine dV 11 rfl (y_buildArr (out := [_, _, _, _, _, _]) ap_75 rfl rfl rfl) ?_
    refine dV 12 rfl (y_build (out := [_, _, _, _, _, _, _]) bp_77 rfl rfl) ?_
    refine d_ready (i := 13) (rs := []) (by kernel_rfl) (.cons .here (.cons .here (.cons .here .nil))) (all_one ?_)
    refine o_gives rfl rfl rfl (g_buildSlice (cs := Stk.gcells (stk3 3 X0 Y0 X1 Y1 X2 Y2) ++ []) sl_48 sz_77 ze_77 rfl rfl rfl rfl (by simp [Value.cells]) rfl rfl) rfl ?_
    intro b48 hb48
    refine d_ready (i := 14) (rs := []) (by kernel_rfl) (.cons (.there .here) (.cons (.there .here) (.cons (.there .here) .nil))) (all_one ?_)
    refine o_gives rfl rfl rfl (g_appendT (by_ := 28) (news := Stk.gcells (stk3 3 X0 Y0 X1 Y1 X2 Y2)) (sy := []) ([_, _, _, _, _]) sl_48 inf_77 rfl rfl rfl rfl (by decide) rfl rfl hok (by rfl) m0 rfl (Stk.gone _) (by unfold maxLen; omega) (by omega)) rfl ?_
    intro so2 hok2
    rw [encG_snoc] at hok2 ⊢
    have e2 : q.out.length + 1 = (q.out ++ [(stk3 3 X0 Y0 X1 Y1 X2 Y2)]).length := by simp
    rw [e2] at hok2 ⊢
    refine dN 15 rfl rfl ?_
    refine dV 16 rfl (y_fieldAddr fo_97_0 rfl) ?_
    refine d_ready (i := 17) (rs := []) (by kernel_rfl) (.cons (.there .here) (.cons (.there .here) (.cons (.there .here) .nil))) (all_one ?_)
    refine o_does rfl rfl rfl (g_store1 (cs' := _ :: _) sz_48 rfl rfl (by first | rfl | exact slV_cells _ _ | exact fvV_cells _ _) rfl (by first | rfl | exact slV_one _ _ | exact fvV_one _ _) rfl (.there (.there (.there (.there .here))))) ?_
    intro _ _
    refine d_end (by kernel_rfl) (.cons (.there .here) (.cons (.there .here) (.cons (.there .here) .nil))) ?_
    exact body_ret (rs := []) rfl (vs := []) trivial (out_end so2 hok2 rfl (.cons (.there (.there (.there (.there .here)))) (.skip (.skip (.skip (.skip .refl)))))) _ (.inl rfl)
   ·refine o_call rfl (no_guard rfl) ok_111 rfl rfl (out_keep (fun w1 => f111_any w1 X2 Y2 (by omega) (by omega))) ?_
    intro _ _
    refine dV 11 rfl (y_buildArr (out := [_, _, _, _, _, _]) ap_75 rfl rfl rfl) ?_
    refine dV 12 rfl (y_build (out := [_, _, _, _, _, _, _]) bp_77 rfl rfl) ?_
    refine d_ready (i := 4) (rs := [13]) (by kernel_rfl) (.cons .here (.cons .here (.cons .here .nil))) (all_cons ?_ (all_one ?_))
    ·refine o_gives rfl rfl rfl (gy (y_load1 ld_48 rfl m3 rfl)) rfl ?_
     intro _ _
     refine d_ready (i := 13) (rs := []) (by kernel_rfl) (.cons .here (.cons .here (.cons .here .nil))) (all_one ?_)
     refine o_gives rfl rfl rfl (g_buildSlice (cs := Stk.gcells (stk3 3 X0 Y0 X1 Y1 X2 Y2) ++ []) sl_48 sz_77 ze_77 rfl rfl rfl rfl (by simp [Value.cells]) rfl rfl) rfl ?_
     intro b48 hb48
     refine d_ready (i := 14) (rs := []) (by kernel_rfl) (.cons (.there .here) (.cons (.there .here) (.cons (.there .here) .nil))) (all_one ?_)
     refine o_gives rfl rfl rfl (g_appendT (by_ := 28) (news := Stk.gcells (stk3 3 X0 Y0 X1 Y1 X2 Y2)) (sy := []) ([_, _, _, _, _]) sl_48 inf_77 rfl rfl rfl rfl (by decide) rfl rfl hok (by rfl) m0 rfl (Stk.gone _) (by unfold maxLen; omega) (by omega)) rfl ?_
     intro so2 hok2
     rw [encG_snoc] at hok2 ⊢
     have e2 : q.out.length + 1 = (q.out ++ [(stk3 3 X0 Y0 X1 Y1 X2 Y2)]).length := by simp
     rw [e2] at hok2 ⊢
     refine dN 15 rfl rfl ?_
     refine dV 16 rfl (y_fieldAddr fo_97_0 rfl) ?_
     refine d_ready (i := 17) (rs := []) (by kernel_rfl) (.cons (.there .here) (.cons (.there .here) (.cons (.there .here) .nil))) (all_one ?_)
     refine o_does rfl rfl rfl (g_store1 (cs' := _ :: _) sz_48 rfl rfl (by first | rfl | exact slV_cells _ _ | exact fvV_cells _ _) rfl (by first | rfl | exact slV_one _ _ | exact fvV_one _ _) rfl (.there (.there (.there (.there .here))))) ?_
     intro _ _
     refine d_end (by kernel_rfl) (.cons (.there .here) (.cons (.there .here) (.cons (.there .here) .nil))) ?_
     exact body_ret (rs := []) rfl (vs := []) trivial (out_end so2 hok2 rfl (.cons (.there (.there (.there (.there .here)))) (.skip (.skip (.skip (.skip .refl)))))) _ (.inl rfl)
    ·refine o_gives rfl rfl rfl (g_buildSlice (cs := Stk.gcells (stk3 3 X0 Y0 X1 Y1 X2 Y2) ++ []) sl_48 sz_77 ze_77 rfl rfl rfl rfl (by simp [Value.cells]) rfl rfl) rfl ?_
     intro b48 hb48
     refine d_ready (i := 4) (rs := []) (by kernel_rfl) (.cons (.there .here) (.cons (.there .here) (.cons (.there .here) .nil))) (all_one ?_)
     refine o_gives rfl rfl rfl (gy (y_load1 ld_48 rfl m4 rfl)) rfl ?_
     intro _ _
     refine d_ready (i := 14) (rs := []) (by kernel_rfl) (.cons (.there .here) (.cons (.there .here) (.cons (.there .here) .nil))) (all_one ?_)
     refine o_gives rfl rfl rfl (g_appendT (by_ := 28) (news := Stk.gcells (stk3 3 X0 Y0 X1 Y1 X2 Y2)) (sy := []) ([_, _, _, _, _]) sl_48 inf_77 rfl rfl rfl rfl (by decide) rfl rfl hok (by rfl) m0 rfl (Stk.gone _) (by unfold maxLen; omega) (by omega)) rfl ?_
     intro so2 hok2
     rw [encG_snoc] at hok2 ⊢
     have e2 : q.out.length + 1 = (q.out ++ [(stk3 3 X0 Y0 X1 Y1 X2 Y2)]).length := by simp
     rw [e2] at hok2 ⊢
     refine dN 15 rfl rfl ?_
     refine dV 16 rfl (y_fieldAddr fo_97_0 rfl) ?_
     refine d_ready (i := 17) (rs := []) (by kernel_rfl) (.cons (.there .here) (.cons (.there .here) (.cons (.there .here) .nil))) (all_one ?_)
     refine o_does rfl rfl rfl (g_store1 (cs' := _ :: _) sz_48 rfl rfl (by first | rfl | exact slV_cells _ _ | exact fvV_cells _ _) rfl (by first | rfl | exact slV_one _ _ | exact fvV_one _ _) rfl (.there (.there (.there (.there .here))))) ?_
     intro _ _
     refine d_end (by kernel_rfl) (.cons (.there .here) (.cons (.there .here) (.cons (.there .here) .nil))) ?_
     exact body_ret (rs := []) rfl (vs := []) trivial (out_end so2 hok2 rfl (.cons (.there (.there (.there (.there .here)))) (.skip (.skip (.skip (.skip .refl)))))) _ (.inl rfl)
set_option maxHeartbeats 4000000 in
theorem f145_any (w : World) (bH M : Nat) (q : QSt) (so : Sv) (v5 v6 v7 v13 : Value) (wd : List Value) (hM : M < 2 ^ 53) (hB : q.Bd M) (a b : Int) (ha : a.natAbs < 2 ^ 53) (hb : b.natAbs < 2 ^ 53) (hx1 : (q.x + a).natAbs < 2 ^ 53) (hy1 : (q.y + b).natAbs < 2 ^ 53) (hok : slOk so q.out.length 7 (encG q.out)) (hlen : q.out.length ≤ 90000) (hw : Hp w (((HB bH so q.out.length q.bx v5 v6 v7 q.x q.y q.fx q.fy q.io v13 ((q.bx).isSome) wd) :: slH so (encG q.out) 77).map (·.1)) ((HB bH so q.out.length q.bx v5 v6 v7 q.x q.y q.fx q.fy q.io v13 ((q.bx).isSome) wd) :: slH so (encG q.out) 77) w) : Calls Tryz.prog 145 [.pointer (some ⟨bH, 0, none⟩), .agg #[.float .f64 (F a), .float .f64 (F b)]].toArray w (Out w (((HB bH so q.out.length q.bx v5 v6 v7 q.x q.y q.fx q.fy q.io v13 ((q.bx).isSome) wd) :: slH so (encG q.out) 77).map (·.1)) (fun z : List Stk × Sv => z.1 = (moveQ q a b).out ∧ slOk z.2 z.1.length 7 (encG z.1)) (fun z => .tuple #[]) (fun z => (HB bH z.2 z.1.length ((moveQ q a b).bx) v5 v6 v7 ((moveQ q a b).x) ((moveQ q a b).y) ((moveQ q a b).fx) ((moveQ q a b).fy) ((moveQ q a b).io) v13 (((moveQ q a b).bx).isSome) wd) :: slH z.2 (encG z.1) 77)) := by
 refine enter (n := 40) Tryz.func145 rfl rfl rfl hw ?_
 refine cR ?_
 refine l_gives rfl rfl (g_box (vs := [_, _]) rfl rfl) rfl ?_
 intro b3 hb3
 refine nR ?_
 refine lM rfl ?_
 refine l_call ok_142 rfl rfl (out_tail (A := [_]) (H1 := (HB bH so q.out.length q.bx v5 v6 v7 q.x q.y q.fx q.fy q.io v13 ((q.bx).isSome) wd) :: slH so (encG q.out) 77) (fun w1 ha_ hb_ => f142_any w1 bH q.x q.y q.fx q.fy q.out so _ _ _ _ _ _ _ _ (by have := hB.x; omega) (by have := hB.y; omega) (by have := hB.fx; omega) (by have := hB.fy; omega) hok (by omega) hb_)) ?_
 intro ⟨out1, so1⟩ ⟨hout, hok1⟩
 simp only at hout hok1 ⊢
 have hl1 : out1.length ≤ q.out.length + 1 := by rw [hout]; cases (!(decide (q.fx = q.x) && decide (q.fy = q.y))) <;> simp
 have hcl : (closeQ q).out = out1 := hout.symm
 refine nQ ?_
 refine c_seq ?_
 refine c_draw [(b3, [.float .f64 (F a), .float .f64 (F b)], 50)] mixed rfl ?_
 refine dM 0 rfl rfl ?_
 refine dN 1 rfl rfl ?_
 refine dV 2 rfl (y_fieldAddr fo_97_5 rfl) ?_
 refine dV 3 rfl (y_fieldAddr fo_50_0 rfl) ?_
 refine dV 4 rfl (y_load1 ld_41 rfl m0 rfl) ?_
 refine dV 5 rfl (y_fieldAddr fo_50_1 rfl) ?_
 refine dV 6 rfl (y_load1 ld_41 rfl m0 rfl) ?_
 refine d_ready (i := 7) (rs := []) (by kernel_rfl) (.cons .here .nil) (all_one ?_)
 refine o_call rfl (no_guard rfl) ok_148 rfl rfl (out_one [_] (b := (bH, [slV so1 out1.length, .float .f64 (w1 q.bx), .float .f64 (w2 q.bx), .float .f64 (w3 q.bx), .float .f64 (w4 q.bx), v5, v6, v7] ++ (.float .f64 (F q.x) :: .float .f64 (F q.y) :: (.float .f64 (F q.fx) :: .float .f64 (F q.fy) :: .bool q.io :: v13 :: .bool (q.bx).isSome :: wd)), 99)) (fun w9 ha_ hb_ => f148_any w9 bH [slV so1 out1.length, .float .f64 (w1 q.bx), .float .f64 (w2 q.bx), .float .f64 (w3 q.bx), .float .f64 (w4 q.bx), v5, v6, v7] (.float .f64 (F q.fx) :: .float .f64 (F q.fy) :: .bool q.io :: v13 :: .bool (q.bx).isSome :: wd) 99 q.x q.y a b (F a) (F b) (by have := hB.x; omega) (by have := hB.y; omega) (RF_F (by omega)) (RF_F (by omega)) (by omega) (by omega) hb_)) ?_
 intro _ _
 refine d_end (by kernel_rfl) (.cons .here .nil) ?_
 refine qR ?_
 refine lM rfl ?_
 refine lN rfl ?_
 refine lV (y_fieldAddr fo_97_7 rfl) ?_
 refine l_does rfl rfl (g_store1 (cs' := _ :: _ :: _ :: _ :: _ :: _ :: _ :: _ :: _ :: _ :: _ :: _ :: _ :: _) sz_4 rfl rfl (by first | rfl | exact slV_cells _ _ | exact fvV_cells _ _) rfl (by first | rfl | exact slV_one _ _ | exact fvV_one _ _) rfl (.there .here)) ?_
 intro _ _
 refine nR ?_
 refine lM rfl ?_
 refine lM rfl ?_
 refine lN rfl ?_
 refine lV (y_fieldAddr fo_97_5 rfl) ?_
 refine lV (y_loadN (vs := [_, _]) ld_50 rfl m1 rfl rfl) ?_
 refine lN rfl ?_
 refine lV (y_fieldAddr fo_97_6 rfl) ?_
 refine l_does rfl rfl (g_storeN (vs := [_, _]) (cs' := _ :: _ :: _ :: _ :: _ :: _ :: _ :: _ :: _ :: _ :: _ :: _ :: _) sz_50 rfl rfl rfl rfl rfl rfl rfl (.there .here)) ?_
 intro _ _
 refine nQ ?_
 refine c_draw [(b3, [.float .f64 (F a), .float .f64 (F b)], 50)] mixed rfl ?_
 refine dM 0 rfl rfl ?_
 refine dM 1 rfl rfl ?_
 refine dN 2 rfl rfl ?_
 refine dV 3 rfl (y_fieldAddr fo_97_0 rfl) ?_
 refine dM 5 rfl rfl ?_
 refine dN 6 rfl rfl ?_
 refine dV 7 rfl (y_fieldAddr fo_97_5 rfl) ?_
 refine d_ready (i := 4) (rs := [8]) (by kernel_rfl) (.cons .here .nil) (all_cons ?_ (all_one ?_))
 ·refine o_gives rfl rfl rfl (gy (y_load1 ld_48 rfl m1 rfl)) rfl ?_
  intro _ _
  refine d_ready (i := 8) (rs := []) (by kernel_rfl) (.cons .here .nil) (all_one ?_)
  refine o_gives rfl rfl rfl (gy (y_loadN (vs := [_, _]) ld_50 rfl m1 rfl rfl)) rfl ?_
  intro _ _
  refine d_ready (i := 9) (rs := []) (by kernel_rfl) (.cons .here .nil) (all_one ?_)
  refine o_call rfl (no_guard rfl) ok_111 rfl rfl (out_keep (fun w1 => f111_any w1 (q.x + a) (q.y + b) (by omega) (by omega))) ?_
  intro _ _
  refine dV 10 rfl (y_buildArr (out := [_, _, _, _, _, _]) ap_75 rfl rfl rfl) ?_
  refine dV 11 rfl (y_build (out := [_, _, _, _, _, _, _]) bp_77 rfl rfl) ?_
  refine d_ready (i := 12) (rs := []) (by kernel_rfl) (.cons .here .nil) (all_one ?_)
  refine o_gives rfl rfl rfl (g_buildSlice (cs := Stk.gcells (stk1 0 (q.x + a) (q.y + b)) ++ []) sl_48 sz_77 ze_77 rfl rfl rfl rfl (by simp [Value.cells]) rfl rfl) rfl ?_
  intro b36 hb36
  refine d_ready (i := 13) (rs := []) (by kernel_rfl) (.cons (.there .here) .nil) (all_one ?_)
  refine o_gives rfl rfl rfl (g_appendT (by_ := 28) (news := Stk.gcells (stk1 0 (q.x + a) (q.y + b))) (sy := []) ([_, _, _]) sl_48 inf_77 rfl rfl rfl rfl (by decide) rfl rfl hok1 (by rfl) m0 rfl (Stk.gone _) (by unfold maxLen; omega) (by omega)) rfl ?_
  intro so2 hok2
  rw [encG_snoc] at hok2 ⊢
  have e2 : out1.length + 1 = (out1 ++ [(stk1 0 (q.x + a) (q.y + b))]).length := by simp
  rw [e2] at hok2 ⊢
  refine dN 14 rfl rfl ?_
  refine dV 15 rfl (y_fieldAddr fo_97_0 rfl) ?_
  refine d_ready (i := 16) (rs := []) (by kernel_rfl) (.cons (.there .here) .nil) (all_one ?_)
  refine o_does rfl rfl rfl (g_store1 (cs' := _ :: _) sz_48 rfl rfl (by first | rfl | exact slV_cells _ _ | exact fvV_cells _ _) rfl (by first | rfl | exact slV_one _ _ | exact fvV_one _ _) rfl (.there (.there .here))) ?_
  intro _ _
  refine d_end (by kernel_rfl) (.cons (.there .here) .nil) ?_
  exact body_ret (rs := []) rfl (vs := []) trivial (out_end (out1 ++ [(stk1 0 (q.x + a) (q.y + b))], so2) ⟨by show _ = (closeQ q).out ++ [_]; rw [hcl], hok2⟩ rfl (.cons (.there (.there .here)) (.skip (.skip .refl)))) _ (.inl rfl)
 ·refine o_gives rfl rfl rfl (gy (y_loadN (vs := [_, _]) ld_50 rfl m1 rfl rfl)) rfl ?_
  intro _ _
  refine d_ready (i := 4) (rs := [9]) (by kernel_rfl) (.cons .here .nil) (all_cons ?_ (all_one ?_))
  ·refine o_gives rfl rfl rfl (gy (y_load1 ld_48 rfl m1 rfl)) rfl ?_
   intro _ _
   refine d_ready (i := 9) (rs := []) (by kernel_rfl) (.cons .here .nil) (all_one ?_)
   refine o_call rfl (no_guard rfl) ok_111 rfl rfl (out_keep (fun w1 => f111_any w1 (q.x + a) (q.y + b) (by omega) (by omega))) ?_
   intro _ _
   refine dV 10 rfl (y_buildArr (out := [_, _, _, _, _, _]) ap_75 rfl rfl rfl) ?_
   refine dV 11 rfl (y_build (out := [_, _, _, _, _, _, _]) bp_77 rfl rfl) ?_
   refine d_ready (i := 12) (rs := []) (by kernel_rfl) (.cons .here .nil) (all_one ?_)
   refine o_gives rfl rfl rfl (g_buildSlice (cs := Stk.gcells (stk1 0 (q.x + a) (q.y + b)) ++ []) sl_48 sz_77 ze_77 rfl rfl rfl rfl (by simp [Value.cells]) rfl rfl) rfl ?_
   intro b36 hb36
   refine d_ready (i := 13) (rs := []) (by kernel_rfl) (.cons (.there .here) .nil) (all_one ?_)
   refine o_gives rfl rfl rfl (g_appendT (by_ := 28) (news := Stk.gcells (stk1 0 (q.x + a) (q.y + b))) (sy := []) ([_, _, _]) sl_48 inf_77 rfl rfl rfl rfl (by decide) rfl rfl hok1 (by rfl) m0 rfl (Stk.gone _) (by unfold maxLen; omega) (by omega)) rfl ?_
   intro so2 hok2
   rw [encG_snoc] at hok2 ⊢
   have e2 : out1.length + 1 = (out1 ++ [(stk1 0 (q.x + a) (q.y + b))]).length := by simp
   rw [e2] at hok2 ⊢
   refine dN 14 rfl rfl ?_
   refine dV 15 rfl (y_fieldAddr fo_97_0 rfl) ?_
   refine d_ready (i := 16) (rs := []) (by kernel_rfl) (.cons (.there .here) .nil) (all_one ?_)
   refine o_does rfl rfl rfl (g_store1 (cs' := _ :: _) sz_48 rfl rfl (by first | rfl | exact slV_cells _ _ | exact fvV_cells _ _) rfl (by first | rfl | exact slV_one _ _ | exact fvV_one _ _) rfl (.there (.there .here))) ?_
   intro _ _
   refine d_end (by kernel_rfl) (.cons (.there .here) .nil) ?_
   exact body_ret (rs := []) rfl (vs := []) trivial (out_end (out1 ++ [(stk1 0 (q.x + a) (q.y + b))], so2) ⟨by show _ = (closeQ q).out ++ [_]; rw [hcl], hok2⟩ rfl (.cons (.there (.there .here)) (.skip (.skip .refl)))) _ (.inl rfl)
  ·refine o_call rfl (no_guard rfl) ok_111 rfl rfl (out_keep (fun w1 => f111_any w1 (q.x + a) (q.y + b) (by omega) (by omega))) ?_
   intro _ _
   refine dV 10 rfl (y_buildArr (out := [_, _, _, _, _, _]) ap_75 rfl rfl rfl) ?_
   refine dV 11 rfl (y_build (out := [_, _, _, _, _, _, _]) bp_77 rfl rfl) ?_
   refine d_ready (i := 4) (rs := [12]) (by kernel_rfl) (.cons .here .nil) (all_cons ?_ (all_one ?_))
   ·refine o_gives rfl rfl rfl (gy (y_load1 ld_48 rfl m1 rfl)) rfl ?_
    intro _ _
    refine d_ready (i := 12) (rs := []) (by kernel_rfl) (.cons .here .nil) (all_one ?_)
    refine o_gives rfl rfl rfl (g_buildSlice (cs := Stk.gcells (stk1 0 (q.x + a) (q.y + b)) ++ []) sl_48 sz_77 ze_77 rfl rfl rfl rfl (by simp [Value.cells]) rfl rfl) rfl ?_
    intro b36 hb36
    refine d_ready (i := 13) (rs := []) (by kernel_rfl) (.cons (.there .here) .nil) (all_one ?_)
    refine o_gives rfl rfl rfl (g_appendT (by_ := 28) (news := Stk.gcells (stk1 0 (q.x + a) (q.y + b))) (sy := []) ([_, _, _]) sl_48 inf_77 rfl rfl rfl rfl (by decide) rfl rfl hok1 (by rfl) m0 rfl (Stk.gone _) (by unfold maxLen; omega) (by omega)) rfl ?_
    intro so2 hok2
    rw [encG_snoc] at hok2 ⊢
    have e2 : out1.length + 1 = (out1 ++ [(stk1 0 (q.x + a) (q.y + b))]).length := by simp
    rw [e2] at hok2 ⊢
    refine dN 14 rfl rfl ?_
    refine dV 15 rfl (y_fieldAddr fo_97_0 rfl) ?_
    refine d_ready (i := 16) (rs := []) (by kernel_rfl) (.cons (.there .here) .nil) (all_one ?_)
    refine o_does rfl rfl rfl (g_store1 (cs' := _ :: _) sz_48 rfl rfl (by first | rfl | exact slV_cells _ _ | exact fvV_cells _ _) rfl (by first | rfl | exact slV_one _ _ | exact fvV_one _ _) rfl (.there (.there .here))) ?_
    intro _ _
    refine d_end (by kernel_rfl) (.cons (.there .here) .nil) ?_
    exact body_ret (rs := []) rfl (vs := []) trivial (out_end (out1 ++ [(stk1 0 (q.x + a) (q.y + b))], so2) ⟨by show _ = (closeQ q).out ++ [_]; rw [hcl], hok2⟩ rfl (.cons (.there (.there .here)) (.skip (.skip .refl)))) _ (.inl rfl)
   ·refine o_gives rfl rfl rfl (g_buildSlice (cs := Stk.gcells (stk1 0 (q.x + a) (q.y + b)) ++ []) sl_48 sz_77 ze_77 rfl rfl rfl rfl (by simp [Value.cells]) rfl rfl) rfl ?_
    intro b36 hb36
    refine d_ready (i := 4) (rs := []) (by kernel_rfl) (.cons (.there .here) .nil) (all_one ?_)
    refine o_gives rfl rfl rfl (gy (y_load1 ld_48 rfl m2 rfl)) rfl ?_
    intro _ _
    refine d_ready (i := 13) (rs := []) (by kernel_rfl) (.cons (.there .here) .nil) (all_one ?_)
    refine o_gives rfl rfl rfl (g_appendT (by_ := 28) (news := Stk.gcells (stk1 0 (q.x + a) (q.y + b))) (sy := []) ([_, _, _]) sl_48 inf_77 rfl rfl rfl rfl (by decide) rfl rfl hok1 (by rfl) m0 rfl (Stk.gone _) (by unfold maxLen; omega) (by omega)) rfl ?_
    intro so2 hok2
    rw [encG_snoc] at hok2 ⊢
    have e2 : out1.length + 1 = (out1 ++ [(stk1 0 (q.x + a) (q.y + b))]).length := by simp
    rw [e2] at hok2 ⊢
    refine dN 14 rfl rfl ?_
    refine dV 15 rfl (y_fieldAddr fo_97_0 rfl) ?_
    refine d_ready (i := 16) (rs := []) (by kernel_rfl) (.cons (.there .here) .nil) (all_one ?_)
    refine o_does rfl rfl rfl (g_store1 (cs' := _ :: _) sz_48 rfl rfl (by first | rfl | exact slV_cells _ _ | exact fvV_cells _ _) rfl (by first | rfl | exact slV_one _ _ | exact fvV_one _ _) rfl (.there (.there .here))) ?_
    intro _ _
    refine d_end (by kernel_rfl) (.cons (.there .here) .nil) ?_
    exact body_ret (rs := []) rfl (vs := []) trivial (out_end (out1 ++ [(stk1 0 (q.x + a) (q.y + b))], so2) ⟨by show _ = (closeQ q).out ++ [_]; rw [hcl], hok2⟩ rfl (.cons (.there (.there .here)) (.skip (.skip .refl)))) _ (.inl rfl)
set_option maxHeartbeats 4000000 in
theorem f118_any (w : World) (bH M : Nat) (q : QSt) (so : Sv) (v5 v6 v7 v13 : Value) (wd : List Value) (hM : M < 2 ^ 53) (hB : q.Bd M) (hok : slOk so q.out.length 7 (encG q.out)) (hlen : q.out.length ≤ 90000) (hw : Hp w (((HB bH so q.out.length q.bx v5 v6 v7 q.x q.y q.fx q.fy q.io v13 ((q.bx).isSome) wd) :: slH so (encG q.out) 77).map (·.1)) ((HB bH so q.out.length q.bx v5 v6 v7 q.x q.y q.fx q.fy q.io v13 ((q.bx).isSome) wd) :: slH so (encG q.out) 77) w) : Calls Tryz.prog 118 [.pointer (some ⟨bH, 0, none⟩)].toArray w (Out w (((HB bH so q.out.length q.bx v5 v6 v7 q.x q.y q.fx q.fy q.io v13 ((q.bx).isSome) wd) :: slH so (encG q.out) 77).map (·.1)) (fun z : List Stk × Sv => z.1 = (endQ q).out ∧ slOk z.2 z.1.length 7 (encG z.1)) (fun z => .tuple #[]) (fun z => (HB bH z.2 z.1.length ((endQ q).bx) v5 v6 v7 ((endQ q).x) ((endQ q).y) ((endQ q).fx) ((endQ q).fy) ((endQ q).io) v13 (((endQ q).bx).isSome) wd) :: slH z.2 (encG z.1) 77)) := by
 refine enter (n := 7) Tryz.func118 rfl rfl rfl hw ?_
 refine cR ?_
 refine lM rfl ?_
 refine l_call ok_142 rfl rfl (out_tail (A := []) (H1 := (HB bH so q.out.length q.bx v5 v6 v7 q.x q.y q.fx q.fy q.io v13 ((q.bx).isSome) wd) :: slH so (encG q.out) 77) (fun w1 ha_ hb_ => f142_any w1 bH q.x q.y q.fx q.fy q.out so _ _ _ _ _ _ _ _ (by have := hB.x; omega) (by have := hB.y; omega) (by have := hB.fx; omega) (by have := hB.fy; omega) hok (by omega) hb_)) ?_
 intro ⟨out1, so1⟩ ⟨hout, hok1⟩
 simp only at hout hok1 ⊢
 have hl1 : out1.length ≤ q.out.length + 1 := by rw [hout]; cases (!(decide (q.fx = q.x) && decide (q.fy = q.y))) <;> simp
 have hcl : (closeQ q).out = out1 := hout.symm
 refine nG ?_
 refine lM rfl ?_
 refine lN rfl ?_
 refine lV (y_fieldAddr fo_97_7 rfl) ?_
 refine l_does rfl rfl (g_store1 (cs' := _ :: _ :: _ :: _ :: _ :: _ :: _ :: _ :: _ :: _ :: _ :: _ :: _ :: _) sz_4 rfl rfl (by first | rfl | exact slV_cells _ _ | exact fvV_cells _ _) rfl (by first | rfl | exact slV_one _ _ | exact fvV_one _ _) rfl .here) ?_
 intro _ _
 refine l_nil ?_
 exact body_ret (rs := []) rfl (vs := []) trivial (out_end (out1, so1) ⟨hcl.symm, hok1⟩ rfl .refl) _ (.inl rfl)
end Go.Proofs.YtbepljmeflndkaaGreatDoor
namespace Go.Proofs.YtbepljmeflndkaaGreatDoor
open Go.Eng Go.Fl
def linesQ : QSt → List Int → QSt
  | q, a :: b :: r => linesQ (lineQ q a b) r
  | q, _ => q
def curvesQ : QSt → List Int → QSt
  | q, a :: b :: c :: d :: e :: f :: r => curvesQ (curveQ q a b c d e f) r
  | q, _ => q
def hvQ : Bool → QSt → List Int → QSt
  | _, q, [] => q
  | lv, q, a :: r => hvQ (!lv) (bif lv then lineQ q a 0 else lineQ q 0 a) r
def straightQ (lv : Bool) : QSt → Int → List Int → QSt
  | q, q0, a :: b :: c :: d :: r => straightQ lv (bif lv then curveQ q a q0 b c d 0 else curveQ q q0 a b c 0 d) 0 r
  | q, _, _ => q
def straightSQ (lv : Bool) (q : QSt) (l : List Int) : QSt := bif l.length % 4 == 1 then straightQ lv q (l.headD 0) l.tail else straightQ lv q 0 l
def turningQ : Bool → QSt → List Int → QSt
  | lv, q, [a, b, c, d, e] => bif lv then curveQ q a 0 b c e d else curveQ q 0 a b c d e
  | lv, q, a :: b :: c :: d :: r => turningQ (!lv) (bif lv then curveQ q a 0 b c 0 d else curveQ q 0 a b c d 0) r
  | _, q, _ => q
theorem nb {a : Int} {M : Nat} (h : a.natAbs ≤ M) : -(M : Int) ≤ a ∧ a ≤ M := by omega
theorem fitI {z : Int} {m : Nat} (h : z = m) (h2 : m ≤ 2147483647) : Value.int .i32 (IntKind.i32.wrap z) = .int .i32 (m : Int) := by subst h; exact fit32 (by omega) (by omega)
theorem blt513 {j : Nat} (h : j < 513) : Nat.blt j 513 = true := Nat.ble_eq_true_of_le h
theorem lineA_bd {q : QSt} {M : Nat} {X Y : Int} (h : q.Bd M) (hX : X.natAbs ≤ M) (hY : Y.natAbs ≤ M) : (lineA q X Y).Bd M := ⟨hX, hY, h.fx, h.fy, (beg_bd h).enl hX hY⟩
theorem curveA_bd {q : QSt} {M : Nat} {X0 Y0 X1 Y1 X2 Y2 : Int} (h : q.Bd M) (h0 : X0.natAbs ≤ M) (h1 : Y0.natAbs ≤ M) (h2 : X1.natAbs ≤ M) (h3 : Y1.natAbs ≤ M) (h4 : X2.natAbs ≤ M) (h5 : Y2.natAbs ≤ M) : (curveA q X0 Y0 X1 Y1 X2 Y2).Bd M :=
  ⟨h4, h5, h.fx, h.fy, (((beg_bd h).enl h0 h1).enl h2 h3).enl h4 h5⟩
/-- The machine's stack, in memory that was there and is not among S. -/
def RdM (w : World) (S : List Nat) (bM : Nat) (st : List Int) : Prop := bM < w.heap.size ∧ bM ∉ S ∧ w.cell? ⟨bM, 527, none⟩ = some (.int .i32 (st.length : Nat)) ∧ ∀ i q, st[i]? = some q → w.cell? ⟨bM, 14 + i * 1, none⟩ = some (.float .f64 (F q))
theorem at_of {l : List Int} {i : Nat} (h : i < l.length) : ∃ a, l[i]? = some a := ⟨l[i], List.getElem?_eq_getElem h⟩
theorem at_opd {l : List Int} {i : Nat} {a : Int} (hq : ∀ q ∈ l, Opd q) (h : l[i]? = some a) : -2147483648 ≤ a ∧ a ≤ 2147483648 := by
  have := nb (hq a (mem_at h)); exact this
theorem lineA_len {q : QSt} {X Y : Int} : (lineA q X Y).out.length = q.out.length + 1 := by simp [lineA]
theorem curveA_len {q : QSt} {X0 Y0 X1 Y1 X2 Y2 : Int} : (curveA q X0 Y0 X1 Y1 X2 Y2).out.length = q.out.length + 1 := by simp [curveA]
theorem drop_cons {l : List Int} {k : Nat} {a : Int} (h : l[k]? = some a) : l.drop k = a :: l.drop (k + 1) := by
  obtain ⟨hk, rfl⟩ := List.getElem?_eq_some_iff.1 h
  exact List.drop_eq_getElem_cons hk
theorem lineQ_r0 {q : QSt} {a : Int} : lineQ q a 0 = lineA q (q.x + a) q.y := by simp [lineQ, lineA]
theorem lineQ_0r {q : QSt} {a : Int} : lineQ q 0 a = lineA q q.x (q.y + a) := by simp [lineQ, lineA]
theorem curveQ_bd {q : QSt} {M N : Nat} {a b c d e f : Int} (h : q.Bd M) (ha : -2147483648 ≤ a ∧ a ≤ 2147483648) (hb : -2147483648 ≤ b ∧ b ≤ 2147483648) (hc : -2147483648 ≤ c ∧ c ≤ 2147483648) (hd : -2147483648 ≤ d ∧ d ≤ 2147483648) (he : -2147483648 ≤ e ∧ e ≤ 2147483648) (hf : -2147483648 ≤ f ∧ f ≤ 2147483648) (hn : M + 3 * 2147483648 ≤ N) : (curveQ q a b c d e f).Bd N := by
  have hx := nb h.x
  have hy := nb h.y
  exact curveA_bd (h.mono (by omega)) (by omega) (by omega) (by omega) (by omega) (by omega) (by omega)
theorem hvQ_two_t {q : QSt} {a b : Int} {r : List Int} : hvQ true q (a :: b :: r) = hvQ true (lineA (lineA q (q.x + a) q.y) (q.x + a) (q.y + b)) r := by
  show hvQ true (lineQ (lineQ q a 0) 0 b) r = _
  rw [lineQ_r0, lineQ_0r]; rfl
theorem hvQ_two_f {q : QSt} {a b : Int} {r : List Int} : hvQ false q (a :: b :: r) = hvQ false (lineA (lineA q q.x (q.y + a)) (q.x + b) (q.y + a)) r := by
  show hvQ false (lineQ (lineQ q 0 a) b 0) r = _
  rw [lineQ_0r, lineQ_r0]; rfl
end Go.Proofs.YtbepljmeflndkaaGreatDoor
