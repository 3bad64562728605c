/- The data of spacing: texts, letters that part words, and glyphs changed in place. -/
import Derived.Test.YtbepljmeflndkaaD
namespace Go.Proofs.Ytbepljmeflndkaa
open Go.Eng

def sepr (c : Int) : Bool := (c == 32) || ((c == 160) || ((c == 4961) || ((c == 65792) || ((c == 65793) || ((c == 66463) || (c == 67871))))))
theorem sepT {a r : Bool} (h : a = true) : a = (a || r) := by subst h; rfl
theorem sepF {a r x : Bool} (h : a = false) (h2 : x = r) : x = (a || r) := by subst h; exact h2
theorem someB {a b : Bool} (h : a = b) : some (Value.bool a) = some (.bool b) := by rw [h]
theorem valB {a b : Bool} (h : a = b) : Value.bool a = .bool b := by rw [h]

/-- Letters that a slice has, in memory that was there and is not among S. -/
def RdT (w : World) (S : List Nat) (A : Option Addr) (ts : List Int) : Prop := ∀ i c, ts[i]? = some c → ∃ p, A = some p ∧ p.block < w.heap.size ∧ p.block ∉ S ∧ w.cell? (p.add i) = some (.int .i32 c)
theorem RdT.into {w0 w : World} {S : List Nat} {H : Heap} {A : Option Addr} {ts : List Int} (h : RdT w0 S A ts) (hw : Hp w0 S H w) : RdT w (H.map (·.1)) A ts := by
  intro i c hc
  obtain ⟨p, rfl, hb, hS, hcell⟩ := h i c hc
  refine ⟨p, rfl, Nat.lt_of_lt_of_le hb hw.size, ?_, ?_⟩
  · intro hm
    obtain ⟨⟨g, cs, e⟩, hg, he⟩ := List.mem_map.1 hm
    simp only at he
    rcases (hw.blk g cs e hg).2 with h1 | h1
    · exact hS (he ▸ h1)
    · omega
  · rw [hw.oldCell (by rw [block_add]; exact hb) (by rw [block_add]; exact hS)]
    exact hcell
theorem RdT.empty {w0 w : World} {S : List Nat} {H : Heap} {A : Option Addr} {ts : List Int} (h : RdT w0 S A ts) (hw : Hp w0 S H w) : RdT w [] A ts := by
  intro i c hc
  obtain ⟨p, hp, hb, _, hcell⟩ := h.into hw i c hc
  exact ⟨p, hp, hb, List.not_mem_nil, hcell⟩
/-- The own text's block, if there is one. -/
def TxH (bt : Option Nat) : Heap := match bt with | none => [] | some b => [(b, [.int .i32 32], 21)]

/-- One run among others, in one block: what is at hand of it. -/
structure Mid (B : Int → List Value) (o : Nat) (up dn gp dir : Int) (gv : Value) : Prop where
  get : ∀ {ad : Int} {j : Nat} {v : Value}, (oC ad up dn gp dir gv)[j]? = some v → (B ad)[o + j]? = some v
  set : ∀ {a b : Int}, (B a).set o (.int .i32 b) = B b
theorem Mid.lt {B : Int → List Value} {o : Nat} {up dn gp dir : Int} {gv : Value} (h : Mid B o up dn gp dir gv) {a : Int} : Nat.blt o (B a).length = true := by
  have := h.get (ad := a) (j := 0) rfl
  rw [Nat.add_zero] at this
  have := (List.getElem?_eq_some_iff.1 this).1
  exact Nat.ble_eq_true_of_le this
theorem Mid.self (up dn gp dir : Int) (gv : Value) : Mid (fun ad => oC ad up dn gp dir gv) 0 up dn gp dir gv := ⟨fun h => by rw [Nat.zero_add]; exact h, rfl⟩
theorem Mid.mid (pre post : List Value) (up dn gp dir : Int) (gv : Value) {o : Nat} (ho : pre.length = o) : Mid (fun ad => pre ++ (oC ad up dn gp dir gv ++ post)) o up dn gp dir gv := by
  subst ho
  refine ⟨fun {ad j v} h => ?_, fun {a b} => ?_⟩
  · have hj : j < (oC ad up dn gp dir gv).length := (List.getElem?_eq_some_iff.1 h).1
    rw [List.getElem?_append_right (by omega), Nat.add_sub_cancel_left, List.getElem?_append_left hj]
    exact h
  · rw [List.set_append_right _ _ (Nat.le_refl _), Nat.sub_self]
    rfl

theorem flat_set {α : Type} (f : α → List Value) (m : Nat) (hf : ∀ x, (f x).length = m) (sp : List Value) : ∀ (l : List α) (k : Nat) (x y : α) (j : Nat) (v : Value), k < l.length → j < m → (f x).set j v = f y → ((l.set k x).flatMap f ++ sp).set (k * m + j) v = (l.set k y).flatMap f ++ sp := by
  intro l
  induction l with
  | nil => intro k x y j v h; simp at h
  | cons z l ih =>
    intro k x y j v hk hj hv
    cases k with
    | zero =>
      simp only [List.set_cons_zero, List.flatMap_cons, Nat.zero_mul, Nat.zero_add, List.append_assoc]
      rw [List.set_append_left _ _ (by rw [hf]; exact hj), hv]
    | succ k =>
      simp only [List.set_cons_succ, List.flatMap_cons, List.append_assoc]
      have e : (k + 1) * m + j = (f z).length + (k * m + j) := by rw [hf, Nat.succ_mul]; omega
      rw [e, List.set_append_right _ _ (by omega), Nat.add_sub_cancel_left, ih k x y j v (by simpa using hk) hj hv]
theorem set_get {α : Type} {l : List α} {k : Nat} {x : α} (h : k < l.length) : (l.set k x)[k]? = some x := by rw [List.getElem?_set_self h]
theorem open_set {α : Type} {l : List α} {k : Nat} {x : α} (h : l[k]? = some x) : k < l.length ∧ l = l.set k x := by
  obtain ⟨hk, hx⟩ := List.getElem?_eq_some_iff.1 h
  exact ⟨hk, by rw [← hx, List.set_getElem_self]⟩
theorem gset {L : List GL} {sp : List Value} {k j : Nat} {x y : GL} {v : Value} (hk : k < L.length) (hv : (GL.cells x).set j v = GL.cells y) (hj : Nat.blt j 16 = true) : (encG (L.set k x) ++ sp).set (k * 16 + j) v = encG (L.set k y) ++ sp :=
  flat_set GL.cells 16 (fun _ => rfl) sp L k x y j v hk (Nat.le_of_ble_eq_true hj) hv
theorem oset {L : List OG} {sp : List Value} {k j : Nat} {x y : OG} {v : Value} (hk : k < L.length) (hv : (OG.cells x).set j v = OG.cells y) (hj : Nat.blt j 10 = true) : (encO (L.set k x) ++ sp).set (k * 10 + j) v = encO (L.set k y) ++ sp :=
  flat_set OG.cells 10 (fun _ => rfl) sp L k x y j v hk (Nat.le_of_ble_eq_true hj) hv
theorem gget {L : List GL} {sp : List Value} {k j : Nat} {x : GL} {v : Value} (hk : k < L.length) (hv : (GL.cells x)[j]? = some v) : (encG (L.set k x) ++ sp)[k * 16 + j]? = some v := encG_get (set_get hk) hv
theorem oget {L : List OG} {sp : List Value} {k j : Nat} {x : OG} {v : Value} (hk : k < L.length) (hv : (OG.cells x)[j]? = some v) : (encO (L.set k x) ++ sp)[k * 10 + j]? = some v := encO_get (set_get hk) hv
theorem gfit {L : List GL} {sp : List Value} {k j : Nat} {x : GL} (hk : k < L.length) (hj : Nat.blt j 16 = true) : Nat.blt (k * 16 + j) (encG (L.set k x) ++ sp).length = true := by
  refine Nat.ble_eq_true_of_le ?_
  have := Nat.le_of_ble_eq_true hj
  rw [List.length_append, lenG, List.length_set]
  have : (k + 1) * 16 ≤ L.length * 16 := Nat.mul_le_mul_right 16 hk
  omega
theorem ofit {L : List OG} {sp : List Value} {k j : Nat} {x : OG} (hk : k < L.length) (hj : Nat.blt j 10 = true) : Nat.blt (k * 10 + j) (encO (L.set k x) ++ sp).length = true := by
  refine Nat.ble_eq_true_of_le ?_
  have := Nat.le_of_ble_eq_true hj
  rw [List.length_append, lenO, List.length_set]
  have : (k + 1) * 10 ≤ L.length * 10 := Nat.mul_le_mul_right 10 hk
  omega
theorem slOk_G {sv : Sv} {n : Nat} {L M : List GL} (h : slOk sv n 16 (encG L)) (hl : M.length = L.length) : slOk sv n 16 (encG M) := by
  have e : (encG M).length = (encG L).length := by rw [lenG, lenG, hl]
  refine ⟨by rw [e]; exact h.1, ?_⟩
  cases sv with
  | none => exact h.2
  | some q => exact ⟨h.2.1, h.2.2.1, by rw [List.length_append, e, ← List.length_append]; exact h.2.2.2⟩
theorem slOk_O {sv : Sv} {n : Nat} {L M : List OG} (h : slOk sv n 10 (encO L)) (hl : M.length = L.length) : slOk sv n 10 (encO M) := by
  have e : (encO M).length = (encO L).length := by rw [lenO, lenO, hl]
  refine ⟨by rw [e]; exact h.1, ?_⟩
  cases sv with
  | none => exact h.2
  | some q => exact ⟨h.2.1, h.2.2.1, by rw [List.length_append, e, ← List.length_append]; exact h.2.2.2⟩

/-- Which glyph is a word's end. -/
def wnt (ts : List Int) (cl ru gl : Int) : Bool := (ru == 1) && ((gl == 1) && sepr (ts.getD cl.toNat 0))
def w32 (x : Int) : Int := IntKind.i32.wrap x
def w64' (x : Int) : Int := IntKind.i64.wrap x
def xG (v : Bool) (s d : Int) (g : GL) : GL :=
  bif v then { g with ad := IntKind.i32.wrap (g.ad + s), ya := IntKind.i32.wrap (g.ya + s), yo := IntKind.i32.wrap (g.yo + d) }
  else { g with ad := IntKind.i32.wrap (g.ad + s), xa := IntKind.i32.wrap (g.xa + s), xo := IntKind.i32.wrap (g.xo + d) }
def mvO (v : Bool) (d : Int) (g : OG) : OG := bif v then { g with yo := IntKind.i64.wrap (g.yo + d) } else { g with xo := IntKind.i64.wrap (g.xo + d) }
def adO (s : Int) (g : OG) : OG := { g with ad := IntKind.i64.wrap (g.ad + s) }
def wG (v : Bool) (ts : List Int) (s d : Int) (g : GL) : GL := bif wnt ts g.cl g.ru g.gl then xG v s d g else g
def wO (v : Bool) (ts : List Int) (s d : Int) (g : OG) : OG := bif wnt ts g.cl g.ru g.gl then mvO v d (adO s g) else g
def hG (v : Bool) (d : Int) (g : GL) : GL := { xG v d d g with sl := IntKind.i32.wrap (g.sl + d) }
def tG (v : Bool) (d : Int) (g : GL) : GL :=
  bif v then { g with ad := IntKind.i32.wrap (g.ad + d), ya := IntKind.i32.wrap (g.ya + d), el := IntKind.i32.wrap (g.el + d) }
  else { g with ad := IntKind.i32.wrap (g.ad + d), xa := IntKind.i32.wrap (g.xa + d), el := IntKind.i32.wrap (g.el + d) }
def hO (v : Bool) (d : Int) (g : OG) : OG := mvO v d (adO d g)

def upd {α : Type} (f : α → α) (L : List α) (i : Nat) : List α := match L[i]? with | some g => L.set i (f g) | none => L
theorem upd_len {α : Type} (f : α → α) (L : List α) (i : Nat) : (upd f L i).length = L.length := by unfold upd; split <;> simp
theorem upd_at {α : Type} {f : α → α} {L : List α} {i : Nat} {g : α} (h : L[i]? = some g) : upd f L i = L.set i (f g) := by unfold upd; rw [h]
theorem upd_set {α : Type} {f : α → α} {L : List α} {i : Nat} {g : α} (h : i < L.length) : upd f (L.set i g) i = L.set i (f g) := by rw [upd_at (set_get h), List.set_set]
theorem upd_map {α β : Type} (p : α → β) {f : α → α} (hf : ∀ x, p (f x) = p x) (L : List α) (i : Nat) : (upd f L i).map p = L.map p := by
  unfold upd
  split
  · rename_i g hg
    rw [List.map_set, hf]
    have : (L.map p)[i]? = some (p g) := by simp [hg]
    exact (open_set this).2.symm
  · rfl
def updB {α : Type} (c : Bool) (f : α → α) (L : List α) (i : Nat) : List α := bif c then upd f L i else L
theorem updB_len {α : Type} (c : Bool) (f : α → α) (L : List α) (i : Nat) : (updB c f L i).length = L.length := by cases c; rfl; exact upd_len f L i
theorem updB_map {α β : Type} (p : α → β) {f : α → α} (hf : ∀ x, p (f x) = p x) (c : Bool) (L : List α) (i : Nat) : (updB c f L i).map p = L.map p := by cases c; rfl; exact upd_map p hf L i
/-- The spaces between letters: at a cluster's head, and at its tail. -/
def letL {α : Type} (h t : α → α) (st en : Bool) (n : Nat) : Nat → List Nat → List α → List α
  | _, [], L => L
  | i, m :: ms, L => letL h t st en n (i + m) ms (updB (decide (i + m < n) || !en) t (updB (decide (0 < i) || !st) h L i) (i + m - 1))
theorem letL_len {α : Type} (h t : α → α) (st en : Bool) (n : Nat) : ∀ (ms : List Nat) (i : Nat) (L : List α), (letL h t st en n i ms L).length = L.length := by
  intro ms
  induction ms with
  | nil => intro i L; rfl
  | cons m ms ih => intro i L; rw [letL, ih, updB_len, updB_len]
def Shp (sh : List Int) (i : Nat) (ms : List Nat) : Prop := sh.drop i = ms.flatMap (fun m => List.replicate m (m : Int)) ∧ i + ms.sum = sh.length ∧ ∀ m ∈ ms, 1 ≤ m
theorem sh_step {sh : List Int} {i : Nat} {ms : List Nat} (h : Shp sh i ms) (hi : i < sh.length) : ∃ m r, ms = m :: r ∧ sh[i]? = some (m : Int) ∧ 1 ≤ m ∧ i + m ≤ sh.length ∧ Shp sh (i + m) r := by
  obtain ⟨h1, h2, h3⟩ := h
  cases ms with
  | nil => simp at h2; omega
  | cons m r =>
    have hm := h3 m (by simp)
    simp only [List.sum_cons] at h2
    refine ⟨m, r, rfl, ?_, hm, by omega, ?_, by omega, fun x hx => h3 x (by simp [hx])⟩
    · have e : sh[i]? = (sh.drop i)[0]? := by simp
      rw [e, h1, List.flatMap_cons, List.getElem?_append_left (by simp; omega), List.getElem?_replicate, if_pos (by omega)]
    · have e := congrArg (List.drop m) h1
      rw [List.drop_drop, List.flatMap_cons] at e
      rw [e]
      have : (List.replicate m (m : Int)).length = m := by simp
      exact (congrArg (fun k => List.drop k _) this).symm.trans List.drop_left
theorem sh_end {sh : List Int} {i : Nat} {ms : List Nat} (h : Shp sh i ms) (hi : ¬ i < sh.length) : ms = [] := by
  obtain ⟨h1, h2, h3⟩ := h
  cases ms with
  | nil => rfl
  | cons m r =>
    have hm := h3 m (by simp)
    simp only [List.sum_cons] at h2
    omega
theorem sh_of {bs : List (List OG)} (hb : ∀ b ∈ bs, Blk1 b) : Shp (bs.flatten.map (·.gl)) 0 (bs.map List.length) := by
  refine ⟨?_, ?_, ?_⟩
  · rw [List.drop_zero]
    induction bs with
    | nil => rfl
    | cons b bs ih =>
      rw [List.flatten_cons, List.map_append, List.map_cons, List.flatMap_cons, ih (fun x hx => hb x (by simp [hx]))]
      congr 1
      obtain ⟨g, _, hg, hall⟩ := hb b (by simp)
      refine List.eq_replicate_iff.2 ⟨by simp, fun x hx => ?_⟩
      obtain ⟨y, hy, rfl⟩ := List.mem_map.1 hx
      rw [(hall y hy).2.2, hg]
  · simp [List.length_flatten, Function.comp_def]
  · intro m hm
    obtain ⟨b, hb', rfl⟩ := List.mem_map.1 hm
    obtain ⟨g, hne, _⟩ := hb b hb'
    exact List.length_pos_iff.2 hne
theorem map_step {α : Type} {f : α → α} {L gs : List α} {k : Nat} {g : α} (hL : L = (gs.take k).map f ++ gs.drop k) (hg : gs[k]? = some g) : L[k]? = some g ∧ L.set k (f g) = (gs.take (k + 1)).map f ++ gs.drop (k + 1) := by
  have hk : k < gs.length := (List.getElem?_eq_some_iff.1 hg).1
  have hd : gs.drop k = g :: gs.drop (k + 1) := by
    rw [List.drop_eq_getElem_cons hk]
    rw [(List.getElem?_eq_some_iff.1 hg).2]
  have hl : ((gs.take k).map f).length = k := by simp; omega
  subst hL
  rw [hd]
  refine ⟨?_, ?_⟩
  · rw [List.getElem?_append_right (by omega), hl, Nat.sub_self]; rfl
  · rw [List.set_append_right _ _ (by omega), hl, Nat.sub_self, List.set_cons_zero, take_succ' hg]
    simp
theorem map_end {α : Type} {f : α → α} {L gs : List α} {k : Nat} (hL : L = (gs.take k).map f ++ gs.drop k) (hk : gs.length ≤ k) : L = gs.map f := by
  rw [hL, List.take_of_length_le hk, List.drop_of_length_le hk, List.append_nil]
theorem map_keep {α : Type} {f : α → α} {L gs : List α} {k : Nat} {g : α} (hL : L = (gs.take k).map f ++ gs.drop k) (hg : gs[k]? = some g) (hf : f g = g) : L = (gs.take (k + 1)).map f ++ gs.drop (k + 1) := by
  have h := map_step hL hg
  rw [hf] at h
  rw [← h.2]
  exact (open_set h.1).2
theorem map_len {α : Type} {f : α → α} {L gs : List α} {k : Nat} (hL : L = (gs.take k).map f ++ gs.drop k) : L.length = gs.length := by
  rw [hL]; simp; omega

/-- Runs as lists: how far, the glyphs, and where they lie. -/
structure RU where
  (ad : Int) (gs : List OG) (sv : Sv)
structure RP where
  (ad : Int) (gs : List GL) (sv : Sv)
def RU.cells (dir : Int) (r : RU) : List Value := uC dir r.ad 8 9 10 (slV r.sv r.gs.length)
def RP.cells (dir : Int) (r : RP) : List Value := oC r.ad 8 9 10 dir (slV r.sv r.gs.length)
def encU (dir : Int) (rs : List RU) : List Value := rs.flatMap (RU.cells dir)
def encP (dir : Int) (rs : List RP) : List Value := rs.flatMap (RP.cells dir)
def hpU (rs : List RU) : Heap := rs.flatMap fun r => slH r.sv (encO r.gs) 38
def hpP (rs : List RP) : Heap := rs.flatMap fun r => slH r.sv (encG r.gs) 67
def okU (rs : List RU) : Prop := ∀ r ∈ rs, slOk r.sv r.gs.length 10 (encO r.gs)
def okP (rs : List RP) : Prop := ∀ r ∈ rs, slOk r.sv r.gs.length 16 (encG r.gs)
theorem lenU (dir : Int) (rs : List RU) : (encU dir rs).length = rs.length * 6 := len_flat _ 6 (fun _ => rfl) rs
theorem lenP (dir : Int) (rs : List RP) : (encP dir rs).length = rs.length * 14 := len_flat _ 14 (fun _ => rfl) rs
/-- A slice of runs, in memory that was there. -/
def RdR (w : World) (A : Option Addr) (dir : Int) (rs : List (Int × List OG)) : Prop := ∀ i r, rs[i]? = some r → ∃ p A' cap, A = some p ∧ p.block < w.heap.size ∧ r.2.length ≤ cap ∧ RdO w A' r.2 ∧
  ∀ j v, (uC dir r.1 8 9 10 (.slice A' r.2.length cap))[j]? = some v → w.cell? (p.add (i * 6 + j)) = some v
def RU.told (r : RU) : Int × List OG := (r.ad, r.gs)
theorem RdR.keep {w0 w : World} {H : Heap} {A : Option Addr} {dir : Int} {rs : List (Int × List OG)} (h : RdR w0 A dir rs) (hw : Hp w0 [] H w) : RdR w A dir rs := by
  intro i r hr
  obtain ⟨p, A', cap, rfl, hb, hc, hR, hcell⟩ := h i r hr
  refine ⟨p, A', cap, rfl, Nat.lt_of_lt_of_le hb hw.size, hc, hR.keep hw, fun j v hj => ?_⟩
  rw [hw.oldCell (by rw [block_add]; exact hb) List.not_mem_nil]
  exact hcell j v hj
theorem sub_of_perm {w0 w : World} {S : List Nat} {H H' : Heap} (h : Hp w0 S H w) (hp : H.Perm H') : Hp w0 S H' w := h.perm hp
theorem hp_flat {α : Type} (f : α → Heap) : ∀ (rs : List α) (r : α), r ∈ rs → ∃ R, (rs.flatMap f).Perm (f r ++ R) := by
  intro rs
  induction rs with
  | nil => intro r hr; simp at hr
  | cons x rs ih =>
    intro r hr
    rw [List.flatMap_cons]
    rcases List.mem_cons.1 hr with rfl | hr
    · exact ⟨_, .refl _⟩
    · obtain ⟨R, hR⟩ := ih r hr
      exact ⟨f x ++ R, (List.Perm.append_left _ hR).trans (by rw [← List.append_assoc, ← List.append_assoc]; exact List.Perm.append_right _ List.perm_append_comm)⟩
theorem RdR_sv {w0 w : World} {S : List Nat} {sv : Sv} {dir : Int} {rs : List RU} {H : Heap} (hw : Hp w0 S H w) (hs : SubH (slH sv (encU dir rs) 24 ++ hpU rs) H) (hok : slOk sv rs.length 6 (encU dir rs)) (hoks : okU rs) : RdR w (svA sv) dir (rs.map RU.told) := by
  have hw' := hw.sub hs
  intro i r' hr'
  rw [List.getElem?_map] at hr'
  obtain ⟨r, hr, rfl⟩ := Option.map_eq_some_iff.1 hr'
  have hmem := List.mem_of_getElem? hr
  cases sv with
  | none =>
    have h0 := hok.2
    simp only at h0
    rw [List.length_eq_zero_iff] at h0
    subst h0; simp at hr
  | some q =>
    obtain ⟨b, sp, cap⟩ := q
    obtain ⟨R, hR⟩ := hp_flat (fun r : RU => slH r.sv (encO r.gs) 38) rs r hmem
    have hw2 : Hp w0 S (slH r.sv (encO r.gs) 38) w := by
      have h1 : Hp w0 S (hpU rs) w := hw'.sub (SubH.right (A := slH (some (b, sp, cap)) (encU dir rs) 24))
      exact (h1.perm hR).appendL
    refine ⟨_, svA r.sv, svC r.sv, rfl, hw'.lt (.head _), slOk_cap (hoks r hmem), RdO_sv hw2 .refl (hoks r hmem), fun j v hj => ?_⟩
    rw [Addr.add_lit, Nat.zero_add, hw'.cell (.head _)]
    refine flat_get (RU.cells dir) 6 (fun _ => rfl) sp rs i r j v hr ?_
    show (uC dir r.ad 8 9 10 (slV r.sv r.gs.length))[j]? = some v
    rw [slV_eq (hoks r hmem)]
    exact hj
end Go.Proofs.Ytbepljmeflndkaa
