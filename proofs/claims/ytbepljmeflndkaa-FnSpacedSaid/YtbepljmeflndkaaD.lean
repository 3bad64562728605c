/- The data of runs of glyphs, as cells. -/
import Derived.Test.YtbepljmeflndkaaA
namespace Go.Proofs.Ytbepljmeflndkaa
open Go.Eng

/-- A glyph as the thin package has it. -/
structure OG where
  (w h xb yb ad xo yo cl ru gl : Int)
/-- A glyph as the package has it. -/
structure GL where
  (w h xb yb ad xa ya xo yo cl ru gl id msk sl el : Int)

def OG.cells (g : OG) : List Value := [.int .i64 g.w, .int .i64 g.h, .int .i64 g.xb, .int .i64 g.yb, .int .i64 g.ad, .int .i64 g.xo, .int .i64 g.yo, .int .i64 g.cl, .int .i64 g.ru, .int .i64 g.gl]
def GL.cells (g : GL) : List Value := [.int .i32 g.w, .int .i32 g.h, .int .i32 g.xb, .int .i32 g.yb, .int .i32 g.ad, .int .i32 g.xa, .int .i32 g.ya, .int .i32 g.xo, .int .i32 g.yo, .int .i64 g.cl, .int .i64 g.ru, .int .i64 g.gl, .int .u32 g.id, .int .u32 g.msk, .int .i32 g.sl, .int .i32 g.el]
def encO (gs : List OG) : List Value := gs.flatMap OG.cells
def encG (gs : List GL) : List Value := gs.flatMap GL.cells

theorem len_flat {α : Type} (f : α → List Value) (m : Nat) (hf : ∀ x, (f x).length = m) : ∀ l : List α, (l.flatMap f).length = l.length * m := by
  intro l
  induction l with
  | nil => simp
  | cons x l ih => simp [List.flatMap_cons, hf, ih, Nat.succ_mul, Nat.add_comm]

theorem flat_at {α : Type} (f : α → List Value) (m : Nat) (hf : ∀ x, (f x).length = m) (sp : List Value) : ∀ (l : List α) (k : Nat) (x : α), l[k]? = some x → ((l.flatMap f ++ sp).drop (k * m)).take m = f x := by
  intro l
  induction l with
  | nil => intro k x h; simp at h
  | cons y l ih =>
    intro k x h
    cases k with
    | zero =>
      simp at h
      subst h
      simp only [Nat.zero_mul, List.drop_zero, List.flatMap_cons, List.append_assoc]
      rw [← hf y]
      exact List.take_left
    | succ k =>
      have hx : l[k]? = some x := by simpa using h
      have e : (k + 1) * m = (f y).length + k * m := by rw [hf, Nat.succ_mul, Nat.add_comm]
      rw [e, List.flatMap_cons, List.append_assoc, ← List.drop_drop, List.drop_left]
      exact ih k x hx

theorem flat_get {α : Type} (f : α → List Value) (m : Nat) (hf : ∀ x, (f x).length = m) (sp : List Value) (l : List α) (k : Nat) (x : α) (j : Nat) (v : Value) (h : l[k]? = some x) (hj : (f x)[j]? = some v) : (l.flatMap f ++ sp)[k * m + j]? = some v := by
  have h1 := flat_at f m hf sp l k x h
  have hjm : j < m := by
    rcases Nat.lt_or_ge j m with hlt | hge
    · exact hlt
    · rw [List.getElem?_eq_none (by rw [hf]; exact hge)] at hj; cases hj
  rw [← h1, List.getElem?_take, if_pos hjm, List.getElem?_drop] at hj
  exact hj

theorem lenO (gs : List OG) : (encO gs).length = gs.length * 10 := len_flat OG.cells 10 (fun _ => rfl) gs
theorem lenG (gs : List GL) : (encG gs).length = gs.length * 16 := len_flat GL.cells 16 (fun _ => rfl) gs
theorem encO_at {gs : List OG} {sp : List Value} {k : Nat} {g : OG} (h : gs[k]? = some g) : ((encO gs ++ sp).drop (k * 10)).take 10 = OG.cells g := flat_at OG.cells 10 (fun _ => rfl) sp gs k g h
theorem encG_at {gs : List GL} {sp : List Value} {k : Nat} {g : GL} (h : gs[k]? = some g) : ((encG gs ++ sp).drop (k * 16)).take 16 = GL.cells g := flat_at GL.cells 16 (fun _ => rfl) sp gs k g h
theorem encO_get {gs : List OG} {sp : List Value} {k j : Nat} {g : OG} {v : Value} (h : gs[k]? = some g) (hj : (OG.cells g)[j]? = some v) : (encO gs ++ sp)[k * 10 + j]? = some v := flat_get OG.cells 10 (fun _ => rfl) sp gs k g j v h hj
theorem encG_get {gs : List GL} {sp : List Value} {k j : Nat} {g : GL} {v : Value} (h : gs[k]? = some g) (hj : (GL.cells g)[j]? = some v) : (encG gs ++ sp)[k * 16 + j]? = some v := flat_get GL.cells 16 (fun _ => rfl) sp gs k g j v h hj

/-- A run as the package has it: what is not told is zero. -/
def oC (ad up dn gp dir : Int) (gv : Value) : List Value := [.int .i32 ad, .int .i32 0, gv, .int .i32 0, .int .i32 0, .int .i32 0, .int .i32 up, .int .i32 dn, .int .i32 gp, .int .u8 dir, .int .i64 0, .int .i64 0, .pointer none, .int .i32 0]
/-- A run as the thin package has it. -/
def uC (dir ad up dn gp : Int) (gv : Value) : List Value := [.int .i64 dir, .int .i64 ad, .int .i64 up, .int .i64 dn, .int .i64 gp, gv]

def sumW (gs : List GL) : Int := gs.foldl (fun s g => IntKind.i32.wrap (s + g.ad)) 0
theorem take_succ' {α : Type} {l : List α} {k : Nat} {x : α} (h : l[k]? = some x) : l.take (k + 1) = l.take k ++ [x] := by
  rw [List.take_add_one, h]; rfl
theorem sumW_step {gs : List GL} {k : Nat} {g : GL} (h : gs[k]? = some g) : Value.int .i32 (IntKind.i32.wrap (sumW (gs.take k) + g.ad)) = .int .i32 (sumW (gs.take (k + 1))) := by
  unfold sumW
  rw [take_succ' h, List.foldl_append]
  rfl
theorem some_at {α : Type} {l : List α} {k : Nat} (h : k < l.length) : ∃ x, l[k]? = some x := ⟨l[k], List.getElem?_eq_getElem h⟩

/-- The law's own glyphs: of any numbers, small ones. -/
def one5 (nn : Int) (g : OG) : OG := ⟨sm g.w, sm g.h, sm g.xb, sm g.yb, sm g.ad, sm g.xo, sm g.yo, (IntKind.u16.wrap g.cl).tmod nn, 1 + (IntKind.u8.wrap g.ru).tmod 2, 1 + (IntKind.u8.wrap g.gl).tmod 3⟩
def sel : Nat → Int → Int → Int
  | 0, a, _ => a
  | _ + 1, _, b => b
def at5 (nn : Int) (g : OG) (j : Nat) : OG := { one5 nn g with ad := sel j (one5 nn g).ad ((one5 nn g).w.tdiv 2), xo := sel j (one5 nn g).xo (one5 nn g).h }
def cl5 (nn : Int) (g : OG) : List OG := (List.range (one5 nn g).gl.toNat).map (at5 nn g)
def pre5 (nn : Int) (ls : List OG) (k : Nat) : List OG := (ls.take k).flatMap (cl5 nn)
def xs5 (nn : Int) (ls : List OG) (k : Nat) (g : OG) (j : Nat) : List OG := pre5 nn ls k ++ (List.range j).map (at5 nn g)

theorem u8_bd (x : Int) : 0 ≤ IntKind.u8.wrap x ∧ IntKind.u8.wrap x ≤ 255 := by rw [IntKind.wrap_u8]; omega
theorem u16_bd (x : Int) : 0 ≤ IntKind.u16.wrap x ∧ IntKind.u16.wrap x ≤ 65535 := by
  unfold IntKind.wrap
  simp [IntKind.signed, IntKind.bits]
  omega
theorem gl5 (nn : Int) (g : OG) : 1 ≤ (one5 nn g).gl ∧ (one5 nn g).gl ≤ 3 := by
  have h := u8_bd g.gl
  have e : (IntKind.u8.wrap g.gl).tmod 3 = IntKind.u8.wrap g.gl % 3 := Int.tmod_eq_emod_of_nonneg h.1
  simp only [one5, e]
  omega
theorem xs5_zero (nn : Int) (ls : List OG) (k : Nat) (g : OG) : xs5 nn ls k g 0 = pre5 nn ls k := by simp [xs5]
theorem xs5_enc (nn : Int) (ls : List OG) (k : Nat) (g : OG) (j : Nat) : encO (xs5 nn ls k g j) ++ OG.cells (at5 nn g j) = encO (xs5 nn ls k g (j + 1)) := by
  simp [xs5, encO, List.range_succ]
theorem xs5_len (nn : Int) (ls : List OG) (k : Nat) (g : OG) (j : Nat) : (xs5 nn ls k g j).length + 1 = (xs5 nn ls k g (j + 1)).length := by
  simp [xs5, Nat.add_assoc]
theorem xs5_all {nn : Int} {ls : List OG} {k : Nat} {g : OG} (h : ls[k]? = some g) : xs5 nn ls k g (one5 nn g).gl.toNat = pre5 nn ls (k + 1) := by
  unfold xs5 pre5
  rw [take_succ' h, List.flatMap_append]
  simp [cl5]
theorem pre5_len (nn : Int) (ls : List OG) (k : Nat) : (pre5 nn ls k).length ≤ 3 * k := by
  induction k with
  | zero => simp [pre5]
  | succ k ih =>
    cases h : ls[k]? with
    | none =>
      have : pre5 nn ls (k + 1) = pre5 nn ls k := by
        unfold pre5
        rw [List.take_add_one, h]
        simp
      rw [this]; omega
    | some g =>
      rw [← xs5_all h]
      have := gl5 nn g
      simp only [xs5, List.length_append, List.length_map, List.length_range]
      omega
theorem xs5_le (nn : Int) (ls : List OG) (k : Nat) (g : OG) (j : Nat) : (xs5 nn ls k g j).length ≤ 3 * k + j := by
  have := pre5_len nn ls k
  simp [xs5]; omega
def someL (nn : Int) (ls : List OG) : List OG := pre5 nn ls 12
theorem pre5_end {nn : Int} {ls : List OG} {k : Nat} (hk : k ≤ ls.length) (hk2 : k ≤ 12) (h : k = ls.length ∨ k = 12) : pre5 nn ls k = someL nn ls := by
  rcases h with h | rfl
  · unfold someL pre5
    rw [List.take_of_length_le (by omega), List.take_of_length_le (by omega)]
  · rfl
theorem uC_one (a b c d e : Int) (sv : Sv) (m : Nat) : (uC a b c d e (slV sv m)).all Value.oneCell' = true := by
  simp only [uC, List.all_cons, List.all_nil, slV_one]; rfl
theorem oC_one (a b c d e : Int) (sv : Sv) (m : Nat) : (oC a b c d e (slV sv m)).all Value.oneCell' = true := by
  simp only [oC, List.all_cons, List.all_nil, slV_one]; rfl
theorem tdiv2 (x : Int) : x.tdiv 2 = if 0 ≤ x then x / 2 else -((-x) / 2) := by
  split
  · rename_i h; exact Int.tdiv_eq_ediv_of_nonneg h
  · rename_i h
    have : x = -(-x) := by omega
    rw [this, Int.neg_tdiv, Int.tdiv_eq_ediv_of_nonneg (by omega)]
    simp
theorem q5 (nn : Int) (g : OG) (j : Nat) : Value.int .i64 (IntKind.i64.wrap ((at5 nn g j).w.tdiv 2)) = .int .i64 ((one5 nn g).w.tdiv 2) := by
  have h := sm_bd g.w
  have e : (at5 nn g j).w = sm g.w := rfl
  have e2 : (one5 nn g).w = sm g.w := rfl
  have h2 := tdiv2 (sm g.w)
  rw [e, e2]
  exact fit64 (by omega) (by omega)
theorem start5 (nn : Int) (ls : List OG) : slOk none (pre5 nn ls 0).length 10 (encO (pre5 nn ls 0)) := ⟨rfl, rfl⟩
theorem OG.one (g : OG) : ∀ u ∈ OG.cells g, u.oneCell' = true := by
  intro u hu
  simp only [OG.cells, List.mem_cons, List.not_mem_nil, or_false] at hu
  rcases hu with rfl | rfl | rfl | rfl | rfl | rfl | rfl | rfl | rfl | rfl <;> rfl
theorem GL.one (g : GL) : ∀ u ∈ GL.cells g, u.oneCell' = true := by
  intro u hu
  simp only [GL.cells, List.mem_cons, List.not_mem_nil, or_false] at hu
  rcases hu with rfl | rfl | rfl | rfl | rfl | rfl | rfl | rfl | rfl | rfl | rfl | rfl | rfl | rfl | rfl | rfl <;> rfl

/-- Glyphs that a slice has, in memory that was there. -/
def RdO (w : World) (A : Option Addr) (ls : List OG) : Prop := ∀ i g, ls[i]? = some g → ∃ p, A = some p ∧ p.block < w.heap.size ∧ ∀ j v, (OG.cells g)[j]? = some v → w.cell? (p.add (i * 10 + j)) = some v
def RdG (w : World) (A : Option Addr) (ls : List GL) : Prop := ∀ i g, ls[i]? = some g → ∃ p, A = some p ∧ p.block < w.heap.size ∧ ∀ j v, (GL.cells g)[j]? = some v → w.cell? (p.add (i * 16 + j)) = some v

theorem flat_get' {α : Type} (f : α → List Value) (m : Nat) (hm : 0 < m) (hf : ∀ x, (f x).length = m) (l : List α) (j : Nat) (v : Value) (h : (l.flatMap f)[j]? = some v) : ∃ x, l[j / m]? = some x ∧ (f x)[j % m]? = some v := by
  have hlt : j < l.length * m := by
    rw [← len_flat f m hf]
    rcases Nat.lt_or_ge j (l.flatMap f).length with h' | h'
    · exact h'
    · rw [List.getElem?_eq_none h'] at h; cases h
  have hd : j / m < l.length := (Nat.div_lt_iff_lt_mul hm).2 hlt
  obtain ⟨x, hx⟩ := some_at hd
  refine ⟨x, hx, ?_⟩
  have hmod : j % m < (f x).length := by rw [hf]; exact Nat.mod_lt _ hm
  have := flat_get f m hf [] l (j / m) x (j % m) _ hx (List.getElem?_eq_getElem hmod)
  rw [List.append_nil, Nat.div_add_mod' ] at this
  rw [this] at h
  rw [List.getElem?_eq_getElem hmod]; exact h

theorem RdO.all {w : World} {A : Option Addr} {gs : List OG} (h : RdO w A gs) (h0 : 0 < gs.length) : ∃ p : Addr, A = some p ∧ p.block < w.heap.size ∧ p.block ∉ ([] : List Nat) ∧ ∀ j u, (encO gs)[j]? = some u → w.cell? (p.add j) = some u := by
  obtain ⟨g0, hg0⟩ := some_at h0
  obtain ⟨p, rfl, hb, _⟩ := h 0 g0 hg0
  refine ⟨p, rfl, hb, List.not_mem_nil, fun j u hu => ?_⟩
  obtain ⟨g, hg, hc⟩ := flat_get' OG.cells 10 (by decide) (fun _ => rfl) gs j u hu
  obtain ⟨q, hq, _, hqc⟩ := h _ _ hg
  injection hq with hq
  subst hq
  have := hqc _ _ hc
  rwa [Nat.div_add_mod'] at this
theorem RdG.all {w : World} {A : Option Addr} {gs : List GL} (h : RdG w A gs) (h0 : 0 < gs.length) : ∃ p : Addr, A = some p ∧ p.block < w.heap.size ∧ p.block ∉ ([] : List Nat) ∧ ∀ j u, (encG gs)[j]? = some u → w.cell? (p.add j) = some u := by
  obtain ⟨g0, hg0⟩ := some_at h0
  obtain ⟨p, rfl, hb, _⟩ := h 0 g0 hg0
  refine ⟨p, rfl, hb, List.not_mem_nil, fun j u hu => ?_⟩
  obtain ⟨g, hg, hc⟩ := flat_get' GL.cells 16 (by decide) (fun _ => rfl) gs j u hu
  obtain ⟨q, hq, _, hqc⟩ := h _ _ hg
  injection hq with hq
  subst hq
  have := hqc _ _ hc
  rwa [Nat.div_add_mod'] at this
/-- What the call's own slice reads as. -/
theorem RdO_sv {w0 w : World} {S : List Nat} {H : Heap} {sv : Sv} {gs : List OG} {e : TypeId} (hw : Hp w0 S H w) (hs : SubH (slH sv (encO gs) e) H) (hok : slOk sv gs.length 10 (encO gs)) : RdO w (svA sv) gs := by
  have hw' := hw.sub hs
  intro i g hg
  cases sv with
  | none =>
    have h0 := hok.2
    simp only at h0
    rw [List.length_eq_zero_iff] at h0
    subst h0; simp at hg
  | some q =>
    obtain ⟨b, sp, cap⟩ := q
    refine ⟨_, rfl, hw'.lt (.head _), fun j v hj => ?_⟩
    rw [Addr.add_lit, Nat.zero_add, hw'.cell (.head _)]
    exact encO_get hg hj
theorem RdG_sv {w0 w : World} {S : List Nat} {H : Heap} {sv : Sv} {gs : List GL} {e : TypeId} (hw : Hp w0 S H w) (hs : SubH (slH sv (encG gs) e) H) (hok : slOk sv gs.length 16 (encG gs)) : RdG w (svA sv) gs := by
  have hw' := hw.sub hs
  intro i g hg
  cases sv with
  | none =>
    have h0 := hok.2
    simp only at h0
    rw [List.length_eq_zero_iff] at h0
    subst h0; simp at hg
  | some q =>
    obtain ⟨b, sp, cap⟩ := q
    refine ⟨_, rfl, hw'.lt (.head _), fun j v hj => ?_⟩
    rw [Addr.add_lit, Nat.zero_add, hw'.cell (.head _)]
    exact encG_get hg hj
/-- What was there is there still. -/
theorem RdO.keep {w0 w : World} {H : Heap} {A : Option Addr} {gs : List OG} (h : RdO w0 A gs) (hw : Hp w0 [] H w) : RdO w A gs := by
  intro i g hg
  obtain ⟨p, rfl, hb, hc⟩ := h i g hg
  refine ⟨p, rfl, Nat.lt_of_lt_of_le hb hw.size, fun j v hj => ?_⟩
  rw [hw.oldCell (by rw [block_add]; exact hb) List.not_mem_nil]
  exact hc j v hj
theorem encO_one (gs : List OG) : ∀ u ∈ encO gs, u.oneCell' = true := by
  intro u hu
  obtain ⟨g, _, h⟩ := List.mem_flatMap.1 hu
  exact OG.one g u h
theorem encG_one (gs : List GL) : ∀ u ∈ encG gs, u.oneCell' = true := by
  intro u hu
  obtain ⟨g, _, h⟩ := List.mem_flatMap.1 hu
  exact GL.one g u h
theorem slOk_len {sv : Sv} {m sz : Nat} {xs : List Value} (h : slOk sv m sz xs) : m ≤ maxLen := by
  cases sv with
  | none => have := h.2; simp only at this; unfold maxLen; omega
  | some q => have := h.2; simp only at this; omega

def sumI (gs : List OG) : Int := gs.foldl (fun s g => IntKind.i64.wrap (s + g.ad)) 0
theorem sumI_step {gs : List OG} {k : Nat} {g : OG} (h : gs[k]? = some g) : Value.int .i64 (IntKind.i64.wrap (sumI (gs.take k) + g.ad)) = .int .i64 (sumI (gs.take (k + 1))) := by
  unfold sumI
  rw [take_succ' h, List.foldl_append]
  rfl
def toO (g : GL) : OG := ⟨g.w, g.h, g.xb, g.yb, g.ad, g.xo, g.yo, g.cl, g.ru, g.gl⟩
def ofO (v : Bool) (g : OG) : GL := ⟨g.w, g.h, g.xb, g.yb, g.ad, bif v then 0 else g.ad, bif v then g.ad else 0, g.xo, g.yo, g.cl, g.ru, g.gl, 0, 0, 0, 0⟩
def b32 (x : Int) : Prop := -2147483648 ≤ x ∧ x ≤ 2147483647
structure GB (g : GL) : Prop where
  w : b32 g.w
  h : b32 g.h
  xb : b32 g.xb
  yb : b32 g.yb
  ad : b32 g.ad
  xo : b32 g.xo
  yo : b32 g.yo
theorem fitB {x : Int} (h : b32 x) : Value.int .i64 (IntKind.i64.wrap x) = .int .i64 x := by unfold b32 at h; exact fit64 (by omega) (by omega)
theorem mapO_enc (gs : List GL) (k : Nat) (g : GL) (h : gs[k]? = some g) : encO ((gs.take k).map toO) ++ OG.cells (toO g) = encO ((gs.take (k + 1)).map toO) := by
  rw [take_succ' h]
  simp [encO]
theorem mapO_len (gs : List GL) (k : Nat) (g : GL) (h : gs[k]? = some g) : ((gs.take k).map toO).length + 1 = ((gs.take (k + 1)).map toO).length := by
  rw [take_succ' h]
  simp
theorem startO : slOk none ([] : List OG).length 10 (encO []) := ⟨rfl, rfl⟩
theorem startG : slOk none ([] : List GL).length 16 (encG []) := ⟨rfl, rfl⟩

def inn (x : Int) : Prop := -1048576 ≤ x ∧ x ≤ 1048576
structure OB (g : OG) : Prop where
  w : inn g.w
  h : inn g.h
  xb : inn g.xb
  yb : inn g.yb
  ad : inn g.ad
  xo : inn g.xo
  yo : inn g.yo
theorem fitI {x : Int} (h : inn x) : Value.int .i32 (IntKind.i32.wrap x) = .int .i32 x := by unfold inn at h; exact fit32 (by omega) (by omega)
theorem seven {a b c d e f g : Int} (ha : inn a) (hb : inn b) (hc : inn c) (hd : inn d) (he : inn e) (hf : inn f) (hg : inn g) {j : Nat} (hj : j < 7) :
    ∃ x, ([.int .i64 a, .int .i64 b, .int .i64 c, .int .i64 d, .int .i64 e, .int .i64 f, .int .i64 g] : List Value)[j * 1]? = some (.int .i64 x) ∧ inn x := by
  match j, hj with
  | 0, _ => exact ⟨a, rfl, ha⟩
  | 1, _ => exact ⟨b, rfl, hb⟩
  | 2, _ => exact ⟨c, rfl, hc⟩
  | 3, _ => exact ⟨d, rfl, hd⟩
  | 4, _ => exact ⟨e, rfl, he⟩
  | 5, _ => exact ⟨f, rfl, hf⟩
  | 6, _ => exact ⟨g, rfl, hg⟩
def inG (x : Int) : Prop := -1073741824 ≤ x ∧ x ≤ 1073741824
theorem fitG {x : Int} (h : inG x) : Value.int .i32 (IntKind.i32.wrap x) = .int .i32 x := by unfold inG at h; exact fit32 (by omega) (by omega)
theorem four {a b c d : Int} (ha : inG a) (hb : inG b) (hc : inG c) (hd : inG d) {j : Nat} (hj : j < 4) :
    ∃ x, ([.int .i64 a, .int .i64 b, .int .i64 c, .int .i64 d] : List Value)[j * 1]? = some (.int .i64 x) ∧ inG x := by
  match j, hj with
  | 0, _ => exact ⟨a, rfl, ha⟩
  | 1, _ => exact ⟨b, rfl, hb⟩
  | 2, _ => exact ⟨c, rfl, hc⟩
  | 3, _ => exact ⟨d, rfl, hd⟩

/-- How far a glyph reaches. -/
def hiW (v : Bool) (g : GL) : Int := bif v then IntKind.i32.wrap (IntKind.i32.wrap (g.xo + g.xb) + g.w) else IntKind.i32.wrap (g.yb + g.yo)
def loW (v : Bool) (g : GL) : Int := bif v then IntKind.i32.wrap (g.xo + g.xb) else IntKind.i32.wrap (IntKind.i32.wrap (g.yb + g.yo) + g.h)
def upW (v : Bool) (gs : List GL) : Int := gs.foldl (fun a g => if hiW v g > a then hiW v g else a) 0
def dnW (v : Bool) (gs : List GL) : Int := gs.foldl (fun a g => if loW v g < a then loW v g else a) 0
theorem up_t {v : Bool} {gs : List GL} {k : Nat} {g : GL} (h : gs[k]? = some g) (hc : decide (hiW v g > upW v (gs.take k)) = true) : some (Value.int .i32 (hiW v g)) = some (.int .i32 (upW v (gs.take (k + 1)))) := by
  unfold upW at hc ⊢
  rw [take_succ' h, List.foldl_append]
  simp only [List.foldl_cons, List.foldl_nil]
  rw [if_pos (by simpa using hc)]
theorem up_f {v : Bool} {gs : List GL} {k : Nat} {g : GL} (h : gs[k]? = some g) (hc : decide (hiW v g > upW v (gs.take k)) = false) : some (Value.int .i32 (upW v (gs.take k))) = some (.int .i32 (upW v (gs.take (k + 1)))) := by
  unfold upW at hc ⊢
  rw [take_succ' h, List.foldl_append]
  simp only [List.foldl_cons, List.foldl_nil]
  rw [if_neg (by simpa using hc)]
theorem dn_t {v : Bool} {gs : List GL} {k : Nat} {g : GL} (h : gs[k]? = some g) (hc : decide (loW v g < dnW v (gs.take k)) = true) : some (Value.int .i32 (loW v g)) = some (.int .i32 (dnW v (gs.take (k + 1)))) := by
  unfold dnW at hc ⊢
  rw [take_succ' h, List.foldl_append]
  simp only [List.foldl_cons, List.foldl_nil]
  rw [if_pos (by simpa using hc)]
theorem dn_f {v : Bool} {gs : List GL} {k : Nat} {g : GL} (h : gs[k]? = some g) (hc : decide (loW v g < dnW v (gs.take k)) = false) : some (Value.int .i32 (dnW v (gs.take k))) = some (.int .i32 (dnW v (gs.take (k + 1)))) := by
  unfold dnW at hc ⊢
  rw [take_succ' h, List.foldl_append]
  simp only [List.foldl_cons, List.foldl_nil]
  rw [if_neg (by simpa using hc)]

/-- Clusters, one behind the other. -/
def Blk1 (b : List OG) : Prop := ∃ g : OG, b ≠ [] ∧ g.gl = b.length ∧ ∀ y ∈ b, y.cl = g.cl ∧ y.ru = g.ru ∧ y.gl = g.gl
theorem cl_step {gs : List OG} {i : Nat} {bs : List (List OG)} (h : gs.drop i = bs.flatten) (hl : i + bs.flatten.length = gs.length) (hb : ∀ b ∈ bs, Blk1 b) (hi : i < gs.length) :
    ∃ b r y0, bs = b :: r ∧ gs[i]? = some y0 ∧ y0.gl = (b.length : Int) ∧ 1 ≤ b.length ∧ i + b.length ≤ gs.length ∧ (∀ j, j < b.length → ∃ y, gs[i + j]? = some y ∧ y.cl = y0.cl ∧ y.ru = y0.ru ∧ y.gl = y0.gl) ∧
      gs.drop (i + b.length) = r.flatten ∧ (i + b.length) + r.flatten.length = gs.length ∧ (∀ b ∈ r, Blk1 b) := by
  cases bs with
  | nil => simp at hl; omega
  | cons b r =>
    obtain ⟨g, hne, hgl, hall⟩ := hb b (by simp)
    obtain ⟨y0, hy0⟩ : ∃ y0, b[0]? = some y0 := some_at (by rcases b with _ | _ <;> simp_all)
    have hlen : 1 ≤ b.length := by rcases b with _ | _ <;> simp_all
    simp only [List.flatten_cons, List.length_append] at h hl
    have hget : ∀ j, j < b.length → gs[i + j]? = b[j]? := by
      intro j hj
      rw [← List.getElem?_drop, h, List.getElem?_append_left hj]
    have hy0m := hall y0 (List.mem_of_getElem? hy0)
    refine ⟨b, r, y0, rfl, ?_, ?_, hlen, by omega, fun j hj => ?_, ?_, by omega, fun b' hb' => hb b' (by simp [hb'])⟩
    · have := hget 0 (by omega); rw [Nat.add_zero] at this; rw [this]; exact hy0
    · rw [hy0m.2.2, hgl]
    · obtain ⟨y, hy⟩ := some_at hj
      have hym := hall y (List.mem_of_getElem? hy)
      exact ⟨y, by rw [hget j hj]; exact hy, by rw [hym.1, hy0m.1], by rw [hym.2.1, hy0m.2.1], by rw [hym.2.2, hy0m.2.2]⟩
    · rw [← List.drop_drop, h, List.drop_left]
theorem boolT {p : Prop} [Decidable p] (h : p) : Value.bool (decide p) = .bool true := by rw [decide_eq_true h]
theorem boolF {p : Prop} [Decidable p] (h : ¬ p) : Value.bool (decide p) = .bool false := by rw [decide_eq_false h]
theorem boolEq {x y : Int} (h : x = y) : Value.bool (x == y) = .bool true := by rw [h]; simp
theorem boolNe {x y : Int} (h : x = y) : Value.bool (x != y) = .bool false := by rw [h]; simp
theorem fitU {x : Int} (h : 0 ≤ x ∧ x ≤ 3) : Value.int .u8 (IntKind.u8.wrap x) = .int .u8 x := by rw [IntWalk.u8_in x ⟨by omega, by omega⟩]
theorem mapG_enc (v : Bool) (gs : List OG) (k : Nat) (g : OG) (h : gs[k]? = some g) : encG ((gs.take k).map (ofO v)) ++ GL.cells (ofO v g) = encG ((gs.take (k + 1)).map (ofO v)) := by
  rw [take_succ' h]
  simp [encG]
theorem mapG_len (v : Bool) (gs : List OG) (k : Nat) (g : OG) (h : gs[k]? = some g) : ((gs.take k).map (ofO v)).length + 1 = ((gs.take (k + 1)).map (ofO v)).length := by
  rw [take_succ' h]
  simp
theorem RdO.at2 {w : World} {p : Addr} {gs : List OG} (h : RdO w (some p) gs) {i j : Nat} {y : OG} (hy : gs[i + j]? = some y) : ∀ r v, (OG.cells y)[r]? = some v → w.cell? (((p.add (i * 10)).add (j * 10)).add r) = some v := by
  intro r v hr
  obtain ⟨q, hq, _, hc⟩ := h _ _ hy
  injection hq with hq
  subst hq
  rw [add_add, add_add]
  have := hc r v hr
  rwa [Nat.add_mul, Nat.add_assoc] at this

theorem wrap32_b (x : Int) : b32 (IntKind.i32.wrap x) := by
  unfold b32 IntKind.wrap
  simp [IntKind.signed, IntKind.bits]
  omega
theorem b32_zero : b32 0 := by unfold b32; omega
theorem sumW_b (gs : List GL) : b32 (sumW gs) := by
  unfold sumW
  suffices h : ∀ (l : List GL) (a : Int), b32 a → b32 (l.foldl (fun s g => IntKind.i32.wrap (s + g.ad)) a) from h gs 0 b32_zero
  intro l
  induction l with
  | nil => intro a ha; exact ha
  | cons g l ih => intro a _; exact ih _ (wrap32_b _)
theorem hiW_b (v : Bool) (g : GL) : b32 (hiW v g) := by cases v <;> exact wrap32_b _
theorem loW_b (v : Bool) (g : GL) : b32 (loW v g) := by cases v <;> exact wrap32_b _
theorem upW_b (v : Bool) (gs : List GL) : b32 (upW v gs) := by
  unfold upW
  suffices h : ∀ (l : List GL) (a : Int), b32 a → b32 (l.foldl (fun a g => if hiW v g > a then hiW v g else a) a) from h gs 0 b32_zero
  intro l
  induction l with
  | nil => intro a ha; exact ha
  | cons g l ih => intro a ha; refine ih _ ?_; show b32 (if hiW v g > a then hiW v g else a); split; exact hiW_b v g; exact ha
theorem dnW_b (v : Bool) (gs : List GL) : b32 (dnW v gs) := by
  unfold dnW
  suffices h : ∀ (l : List GL) (a : Int), b32 a → b32 (l.foldl (fun a g => if loW v g < a then loW v g else a) a) from h gs 0 b32_zero
  intro l
  induction l with
  | nil => intro a ha; exact ha
  | cons g l ih => intro a ha; refine ih _ ?_; show b32 (if loW v g < a then loW v g else a); split; exact loW_b v g; exact ha
theorem ofO_B (v : Bool) (gs : List OG) (h : ∀ g ∈ gs, OB g) : ∀ g ∈ gs.map (ofO v), GB g := by
  intro g hg
  obtain ⟨o, ho, rfl⟩ := List.mem_map.1 hg
  have hb := h o ho
  have key : ∀ x, inn x → b32 x := by intro x hx; unfold inn at hx; unfold b32; omega
  exact ⟨key _ hb.w, key _ hb.h, key _ hb.xb, key _ hb.yb, key _ hb.ad, key _ hb.xo, key _ hb.yo⟩
theorem toO_ofO (v : Bool) (gs : List OG) : (gs.map (ofO v)).map toO = gs := by
  rw [List.map_map]
  have : (toO ∘ ofO v) = id := by funext g; rfl
  rw [this, List.map_id]

/-- The reference's bounds. -/
def hiI (v : Bool) (g : OG) : Int := bif v then IntKind.i64.wrap (IntKind.i64.wrap (g.xb + g.xo) + g.w) else IntKind.i64.wrap (g.yb + g.yo)
def loI (v : Bool) (g : OG) : Int := bif v then IntKind.i64.wrap (g.xb + g.xo) else IntKind.i64.wrap (IntKind.i64.wrap (g.yb + g.yo) + g.h)
def upI (v : Bool) (gs : List OG) : Int := gs.foldl (fun a g => max a (hiI v g)) 0
def dnI (v : Bool) (gs : List OG) : Int := gs.foldl (fun a g => min a (loI v g)) 0
theorem upI_step {v : Bool} {gs : List OG} {k : Nat} {g : OG} (h : gs[k]? = some g) : Value.int .i64 (max (upI v (gs.take k)) (hiI v g)) = .int .i64 (upI v (gs.take (k + 1))) := by
  unfold upI
  rw [take_succ' h, List.foldl_append]
  rfl
theorem dnI_step {v : Bool} {gs : List OG} {k : Nat} {g : OG} (h : gs[k]? = some g) : Value.int .i64 (min (dnI v (gs.take k)) (loI v g)) = .int .i64 (dnI v (gs.take (k + 1))) := by
  unfold dnI
  rw [take_succ' h, List.foldl_append]
  rfl
theorem upI_stepT {gs : List OG} {k : Nat} {g : OG} (h : gs[k]? = some g) : Value.int .i64 (max (upI true (gs.take k)) (IntKind.i64.wrap (IntKind.i64.wrap (g.xb + g.xo) + g.w))) = .int .i64 (upI true (gs.take (k + 1))) := upI_step h
theorem upI_stepF {gs : List OG} {k : Nat} {g : OG} (h : gs[k]? = some g) : Value.int .i64 (max (upI false (gs.take k)) (IntKind.i64.wrap (g.yb + g.yo))) = .int .i64 (upI false (gs.take (k + 1))) := upI_step h
theorem dnI_stepT {gs : List OG} {k : Nat} {g : OG} (h : gs[k]? = some g) : Value.int .i64 (min (dnI true (gs.take k)) (IntKind.i64.wrap (g.xb + g.xo))) = .int .i64 (dnI true (gs.take (k + 1))) := dnI_step h
theorem dnI_stepF {gs : List OG} {k : Nat} {g : OG} (h : gs[k]? = some g) : Value.int .i64 (min (dnI false (gs.take k)) (IntKind.i64.wrap (IntKind.i64.wrap (g.yb + g.yo) + g.h))) = .int .i64 (dnI false (gs.take (k + 1))) := dnI_step h

/-- Both bounds, and both sums, are the same where nothing wraps. -/
def sml (x : Int) : Prop := -1048576 ≤ x ∧ x ≤ 1048576
theorem w64 {x : Int} (h1 : -9223372036854775808 ≤ x) (h2 : x ≤ 9223372036854775807) : IntKind.i64.wrap x = x := IntWalk.i64_in x ⟨h1, h2⟩
theorem sum_same (v : Bool) (gs : List OG) (h : ∀ g ∈ gs, OB g) (hl : gs.length ≤ 1000) : sumW (gs.map (ofO v)) = sumI gs ∧ -1048576 * (gs.length : Int) ≤ sumI gs ∧ sumI gs ≤ 1048576 * (gs.length : Int) := by
  unfold sumW sumI
  suffices hs : ∀ (l : List OG) (a : Int) (m : Nat), (∀ g ∈ l, OB g) → m + l.length ≤ 1000 → -1048576 * (m : Int) ≤ a → a ≤ 1048576 * (m : Int) →
      (l.map (ofO v)).foldl (fun s g => IntKind.i32.wrap (s + g.ad)) a = l.foldl (fun s g => IntKind.i64.wrap (s + g.ad)) a ∧
      -1048576 * ((m + l.length : Nat) : Int) ≤ l.foldl (fun s g => IntKind.i64.wrap (s + g.ad)) a ∧ l.foldl (fun s g => IntKind.i64.wrap (s + g.ad)) a ≤ 1048576 * ((m + l.length : Nat) : Int) by
    have := hs gs 0 0 h (by omega) (by omega) (by omega)
    simpa using this
  intro l
  induction l with
  | nil => intro a m _ _ h1 h2; exact ⟨rfl, by simpa using h1, by simpa using h2⟩
  | cons g l ih =>
    intro a m hb hm h1 h2
    have hg := (hb g (by simp)).ad
    unfold inn at hg
    simp only [List.length_cons] at hm
    have e1 : IntKind.i32.wrap (a + g.ad) = a + g.ad := wrap32_in (by omega) (by omega)
    have e2 : IntKind.i64.wrap (a + g.ad) = a + g.ad := w64 (by omega) (by omega)
    have e3 : IntKind.i32.wrap (a + (ofO v g).ad) = a + g.ad := e1
    have := ih (a + g.ad) (m + 1) (fun g hg => hb g (by simp [hg])) (by omega) (by push_cast; omega) (by push_cast; omega)
    simp only [List.map_cons, List.foldl_cons, e3, e2, List.length_cons]
    have e4 : m + (l.length + 1) = m + 1 + l.length := by omega
    rw [e4]
    exact this
theorem hi_same (v : Bool) (g : OG) (h : OB g) : hiW v (ofO v g) = hiI v g := by
  have h1 := h.xo; have h2 := h.xb; have h3 := h.w; have h4 := h.yo; have h5 := h.yb
  unfold inn at h1 h2 h3 h4 h5
  cases v
  · show IntKind.i32.wrap (g.yb + g.yo) = IntKind.i64.wrap (g.yb + g.yo)
    rw [wrap32_in (by omega) (by omega), w64 (by omega) (by omega)]
  · show IntKind.i32.wrap (IntKind.i32.wrap (g.xo + g.xb) + g.w) = IntKind.i64.wrap (IntKind.i64.wrap (g.xb + g.xo) + g.w)
    rw [wrap32_in (z := g.xo + g.xb) (by omega) (by omega), w64 (x := g.xb + g.xo) (by omega) (by omega), wrap32_in (by omega) (by omega), w64 (by omega) (by omega)]
    omega
theorem lo_same (v : Bool) (g : OG) (h : OB g) : loW v (ofO v g) = loI v g := by
  have h1 := h.xo; have h2 := h.xb; have h3 := h.h; have h4 := h.yo; have h5 := h.yb
  unfold inn at h1 h2 h3 h4 h5
  cases v
  · show IntKind.i32.wrap (IntKind.i32.wrap (g.yb + g.yo) + g.h) = IntKind.i64.wrap (IntKind.i64.wrap (g.yb + g.yo) + g.h)
    rw [wrap32_in (z := g.yb + g.yo) (by omega) (by omega), w64 (x := g.yb + g.yo) (by omega) (by omega), wrap32_in (by omega) (by omega), w64 (by omega) (by omega)]
  · show IntKind.i32.wrap (g.xo + g.xb) = IntKind.i64.wrap (g.xb + g.xo)
    rw [wrap32_in (by omega) (by omega), w64 (by omega) (by omega)]
    omega
theorem up_same (v : Bool) (gs : List OG) (h : ∀ g ∈ gs, OB g) : upW v (gs.map (ofO v)) = upI v gs := by
  unfold upW upI
  suffices hs : ∀ (l : List OG) (a : Int), (∀ g ∈ l, OB g) → (l.map (ofO v)).foldl (fun a g => if hiW v g > a then hiW v g else a) a = l.foldl (fun a g => max a (hiI v g)) a from hs gs 0 h
  intro l
  induction l with
  | nil => intro a _; rfl
  | cons g l ih =>
    intro a hb
    simp only [List.map_cons, List.foldl_cons]
    rw [ih _ (fun g hg => hb g (by simp [hg])), hi_same v g (hb g (by simp))]
    congr 1
    rw [Int.max_def]
    split <;> split <;> omega
theorem dn_same (v : Bool) (gs : List OG) (h : ∀ g ∈ gs, OB g) : dnW v (gs.map (ofO v)) = dnI v gs := by
  unfold dnW dnI
  suffices hs : ∀ (l : List OG) (a : Int), (∀ g ∈ l, OB g) → (l.map (ofO v)).foldl (fun a g => if loW v g < a then loW v g else a) a = l.foldl (fun a g => min a (loI v g)) a from hs gs 0 h
  intro l
  induction l with
  | nil => intro a _; rfl
  | cons g l ih =>
    intro a hb
    simp only [List.map_cons, List.foldl_cons]
    rw [ih _ (fun g hg => hb g (by simp [hg])), lo_same v g (hb g (by simp))]
    congr 1
    rw [Int.min_def]
    split <;> split <;> omega

/-- The law's own runs are well made. -/
theorem at5_OB (nn : Int) (g : OG) (j : Nat) : OB (at5 nn g j) := by
  have key : ∀ x, inn (sm x) := by intro x; have := sm_bd x; unfold inn; omega
  have key2 : inn ((sm g.w).tdiv 2) := by have := sm_bd g.w; have h2 := tdiv2 (sm g.w); unfold inn; omega
  refine ⟨key _, key _, key _, key _, ?_, ?_, key _⟩
  · cases j with
    | zero => exact key _
    | succ j => exact key2
  · cases j with
    | zero => exact key _
    | succ j => exact key _
theorem someL_mem {nn : Int} {ls : List OG} {g : OG} (h : g ∈ someL nn ls) : ∃ o j, o ∈ ls ∧ g = at5 nn o j := by
  unfold someL pre5 at h
  obtain ⟨o, ho, hg⟩ := List.mem_flatMap.1 h
  obtain ⟨j, _, rfl⟩ := List.mem_map.1 hg
  exact ⟨o, j, List.mem_of_mem_take ho, rfl⟩
theorem someL_OB (nn : Int) (ls : List OG) : ∀ g ∈ someL nn ls, OB g := by
  intro g hg
  obtain ⟨o, j, _, rfl⟩ := someL_mem hg
  exact at5_OB nn o j
theorem someL_pos (nn : Int) (hn : 1 ≤ nn) (ls : List OG) : ∀ g ∈ someL nn ls, (0 ≤ g.cl ∧ g.cl < nn) ∧ 0 ≤ g.ru := by
  intro g hg
  obtain ⟨o, j, _, rfl⟩ := someL_mem hg
  have h1 := u16_bd o.cl
  have h2 := u8_bd o.ru
  refine ⟨⟨?_, ?_⟩, ?_⟩
  · show 0 ≤ (IntKind.u16.wrap o.cl).tmod nn
    exact Int.tmod_nonneg _ h1.1
  · show (IntKind.u16.wrap o.cl).tmod nn < nn
    exact Int.tmod_lt_of_pos _ (by omega)
  · show 0 ≤ 1 + (IntKind.u8.wrap o.ru).tmod 2
    have := Int.tmod_nonneg 2 h2.1
    omega
theorem someL_len (nn : Int) (ls : List OG) : (someL nn ls).length ≤ 36 := pre5_len nn ls 12
theorem someL_cl (nn : Int) (ls : List OG) : ∃ bs : List (List OG), someL nn ls = bs.flatten ∧ ∀ b ∈ bs, Blk1 b := by
  refine ⟨(ls.take 12).map (cl5 nn), by rw [someL, pre5, List.flatMap_def], fun b hb => ?_⟩
  obtain ⟨o, _, rfl⟩ := List.mem_map.1 hb
  have hgl := gl5 nn o
  refine ⟨one5 nn o, ?_, ?_, fun y hy => ?_⟩
  · intro he
    have : (cl5 nn o).length = 0 := by rw [he]; rfl
    simp [cl5] at this
    omega
  · simp [cl5]
    omega
  · obtain ⟨j, _, rfl⟩ := List.mem_map.1 hy
    exact ⟨rfl, rfl, rfl⟩
theorem inG_small {x : Int} (h : -100 ≤ x ∧ x ≤ 100) : inG x := by unfold inG; omega
theorem sum_inG {v : Bool} {gs : List OG} (h : ∀ g ∈ gs, OB g) (hl : gs.length ≤ 1000) : inG (sumI gs) := by
  have := (sum_same v gs h hl).2
  unfold inG
  omega
theorem slOk_cap {sv : Sv} {m sz : Nat} {xs : List Value} (h : slOk sv m sz xs) : m ≤ svC sv := by
  cases sv with
  | none => have := h.2; simp only at this; subst this; exact Nat.le_refl _
  | some q => exact h.2.1
end Go.Proofs.Ytbepljmeflndkaa
