/- Runs: lists of them, where they lie, and how they are spaced. -/
import Derived.Test.YtbepljmeflndkaaQ
import Derived.Test.YtbepljmeflndkaaN
namespace Go.Eng
open Go
section
variable {P : Program} {n : Nat} {D : List Deferred} {w0 : World} {S : List Nat}
theorem out_head {f : Nat} {args : Array Value} {ι : Type} {φ : ι → Prop} {vv : ι → Value} {H1 R : Heap} {H2 : ι → Heap}
    (hc : ∀ w, Hp w0 S H1 w → Hp w (H1.map (·.1)) H1 w → Calls P f args w (Out w (H1.map (·.1)) φ vv H2)) : ∀ w, Hp w0 S (H1 ++ R) w → Calls P f args w (Out w0 S φ vv (fun x => H2 x ++ R)) :=
  fun w hw => out_frame hw (.refl _) (hc w hw.appendL hw.self)
theorem out_all {f : Nat} {args : Array Value} {ι : Type} {φ : ι → Prop} {vv : ι → Value} {H1 : Heap} {H2 : ι → Heap}
    (hc : ∀ w, Hp w0 S H1 w → Hp w (H1.map (·.1)) H1 w → Calls P f args w (Out w (H1.map (·.1)) φ vv H2)) : ∀ w, Hp w0 S H1 w → Calls P f args w (Out w0 S φ vv H2) := by
  intro w hw
  have h := out_head (R := []) hc w (by rw [List.append_nil]; exact hw)
  simpa only [List.append_nil] using h
end
end Go.Eng
namespace Go.Proofs.Ytbepljmeflndkaa
open Go.Eng

def mapI {α β : Type} (f : Nat → α → β) : Nat → List α → List β
  | _, [] => []
  | i, x :: r => f i x :: mapI f (i + 1) r
theorem mapI_len {α β : Type} (f : Nat → α → β) : ∀ (l : List α) (i : Nat), (mapI f i l).length = l.length := by
  intro l
  induction l with
  | nil => intro i; rfl
  | cons x l ih => intro i; simp [mapI, ih]
theorem mapI_app {α β : Type} (f : Nat → α → β) : ∀ (a b : List α) (i : Nat), mapI f i (a ++ b) = mapI f i a ++ mapI f (i + a.length) b := by
  intro a
  induction a with
  | nil => intro b i; rfl
  | cons x a ih => intro b i; simp only [List.cons_append, mapI, ih, List.length_cons]; rw [Nat.add_assoc, Nat.add_comm 1]
theorem mapI_take {α β : Type} {f : Nat → α → β} {gs : List α} {k : Nat} {g : α} (h : gs[k]? = some g) : mapI f 0 (gs.take (k + 1)) = mapI f 0 (gs.take k) ++ [f k g] := by
  have hk : k < gs.length := (List.getElem?_eq_some_iff.1 h).1
  rw [take_succ' h, mapI_app]
  have : 0 + (gs.take k).length = k := by simp; omega
  rw [this]; rfl
theorem mapI_step {α : Type} {f : Nat → α → α} {L gs : List α} {k : Nat} {g : α} (hL : L = mapI f 0 (gs.take k) ++ gs.drop k) (hg : gs[k]? = some g) :
    ∃ pre post, L = pre ++ g :: post ∧ pre.length = k ∧ pre ++ f k g :: post = mapI f 0 (gs.take (k + 1)) ++ gs.drop (k + 1) := by
  have hk : k < gs.length := (List.getElem?_eq_some_iff.1 hg).1
  have hd : gs.drop k = g :: gs.drop (k + 1) := by
    rw [List.drop_eq_getElem_cons hk]
    rw [(List.getElem?_eq_some_iff.1 hg).2]
  refine ⟨mapI f 0 (gs.take k), gs.drop (k + 1), by rw [hL, hd], by rw [mapI_len]; simp; omega, ?_⟩
  rw [mapI_take hg, List.append_assoc]; rfl
theorem mapI_end {α : Type} {f : Nat → α → α} {L gs : List α} {k : Nat} (hL : L = mapI f 0 (gs.take k) ++ gs.drop k) (hk : gs.length ≤ k) : L = mapI f 0 gs := by
  rw [hL, List.take_of_length_le hk, List.drop_of_length_le hk, List.append_nil]
theorem mapI_map {α β : Type} {f : Nat → α → α} {f' : Nat → β → β} {p : α → β} (h : ∀ i x, p (f i x) = f' i (p x)) : ∀ (l : List α) (i : Nat), (mapI f i l).map p = mapI f' i (l.map p) := by
  intro l
  induction l with
  | nil => intro i; rfl
  | cons x l ih => intro i; simp only [mapI, List.map_cons, h, ih]
theorem mapI_mem {α β : Type} {f : Nat → α → β} : ∀ (l : List α) (i : Nat) (y : β), y ∈ mapI f i l → ∃ j x, x ∈ l ∧ y = f j x := by
  intro l
  induction l with
  | nil => intro i y h; simp [mapI] at h
  | cons x l ih =>
    intro i y h
    simp only [mapI, List.mem_cons] at h
    rcases h with rfl | h
    · exact ⟨i, x, by simp, rfl⟩
    · obtain ⟨j, z, hz, rfl⟩ := ih _ _ h
      exact ⟨j, z, by simp [hz], rfl⟩

open Classical in
noncomputable def msOf (sh : List Int) : List Nat := if h : ∃ ms, Shp sh 0 ms then Classical.choose h else []
theorem msOf_ok {sh : List Int} (h : ∃ ms, Shp sh 0 ms) : Shp sh 0 (msOf sh) := by unfold msOf; rw [dif_pos h]; exact Classical.choose_spec h

/-- What the package does with one run. -/
def q32 (s : Int) : Int := IntKind.i32.wrap (s.tdiv 2)
def q64 (s : Int) : Int := IntKind.i64.wrap (s.tdiv 2)
def spW1 (v : Bool) (ts : List Int) (s : Int) (x : Int × List GL) : Int × List GL := (sumW (x.2.map (wG v ts s (IntKind.i32.wrap (s.tdiv 2)))), x.2.map (wG v ts s (IntKind.i32.wrap (s.tdiv 2))))
noncomputable def spL0 (v : Bool) (s : Int) (st en : Bool) (l : List GL) : List GL := letL (hG v (IntKind.i32.wrap (s.tdiv 2))) (tG v (IntKind.i32.wrap (s.tdiv 2))) st en l.length 0 (msOf (l.map GL.gl)) l
noncomputable def spL1 (v : Bool) (s : Int) (st en : Bool) (x : Int × List GL) : Int × List GL := (sumW (spL0 v s st en x.2), spL0 v s st en x.2)
noncomputable def spT (v : Bool) (ts : List Int) (word letter : Int) (n k : Nat) (x : Int × List GL) : Int × List GL :=
  bif letter != 0 then spL1 v letter ((k : Int) == 0) ((k : Int) == ((n - 1 : Nat) : Int)) (bif word != 0 then spW1 v ts word x else x) else bif word != 0 then spW1 v ts word x else x
/-- What the reference does with one run. -/
def srW1 (v : Bool) (ts : List Int) (s : Int) (x : Int × List OG) : Int × List OG := (sumI (x.2.map (wO v ts s (IntKind.i64.wrap (s.tdiv 2)))), x.2.map (wO v ts s (IntKind.i64.wrap (s.tdiv 2))))
noncomputable def srL0 (v : Bool) (s : Int) (st en : Bool) (l : List OG) : List OG := letL (hO v (IntKind.i64.wrap (s.tdiv 2))) (adO (IntKind.i64.wrap (s.tdiv 2))) st en l.length 0 (msOf (l.map OG.gl)) l
noncomputable def srL1 (v : Bool) (s : Int) (st en : Bool) (x : Int × List OG) : Int × List OG := (sumI (srL0 v s st en x.2), srL0 v s st en x.2)
noncomputable def srT (v : Bool) (ts : List Int) (word letter : Int) (n k : Nat) (x : Int × List OG) : Int × List OG :=
  bif letter != 0 then srL1 v letter ((k : Int) == 0) (((k + 1 : Nat) : Int) == (n : Int)) (bif word != 0 then srW1 v ts word x else x) else bif word != 0 then srW1 v ts word x else x

theorem wG_gl (v : Bool) (ts : List Int) (s d : Int) (g : GL) : (wG v ts s d g).gl = g.gl := by unfold wG; cases wnt ts g.cl g.ru g.gl <;> cases v <;> rfl
theorem wG_cl (v : Bool) (ts : List Int) (s d : Int) (g : GL) : (wG v ts s d g).cl = g.cl := by unfold wG; cases wnt ts g.cl g.ru g.gl <;> cases v <;> rfl
theorem wO_gl (v : Bool) (ts : List Int) (s d : Int) (g : OG) : (wO v ts s d g).gl = g.gl := by unfold wO; cases wnt ts g.cl g.ru g.gl <;> cases v <;> rfl
theorem wO_cl (v : Bool) (ts : List Int) (s d : Int) (g : OG) : (wO v ts s d g).cl = g.cl := by unfold wO; cases wnt ts g.cl g.ru g.gl <;> cases v <;> rfl
theorem map_same {α : Type} {p : α → Int} {f : α → α} (h : ∀ x, p (f x) = p x) (l : List α) : (l.map f).map p = l.map p := by
  rw [List.map_map]
  exact List.map_congr_left fun x _ => h x
theorem spT_len {v : Bool} {ts : List Int} {word letter : Int} {n k : Nat} {x : Int × List GL} : (spT v ts word letter n k x).2.length = x.2.length := by
  unfold spT spL1 spL0 spW1
  cases letter != 0 <;> cases word != 0 <;> simp [letL_len]

noncomputable def spP (v : Bool) (ts : List Int) (word letter : Int) (n : Nat) : Nat → RP → RP := fun k r => ⟨(spT v ts word letter n k (r.ad, r.gs)).1, (spT v ts word letter n k (r.ad, r.gs)).2, r.sv⟩
structure GdP (ts : List Int) (r : RP) : Prop where
  ok : slOk r.sv r.gs.length 16 (encG r.gs)
  len : r.gs.length ≤ 1000
  cl : ∀ g ∈ r.gs, 0 ≤ g.cl ∧ g.cl < ts.length
  shp : ∃ ms, Shp (r.gs.map GL.gl) 0 ms

theorem open_run (dir : Int) (bO : Nat) (sp : List Value) (cap1 : Nat) (pre post : List RP) (r : RP) : ∃ (B : Int → List Value) (R : Heap), Mid B (pre.length * 14) 8 9 10 dir (slV r.sv r.gs.length) ∧
    ∀ ad gs, gs.length = r.gs.length → (slH (some (bO, sp, cap1)) (encP dir (pre ++ ⟨ad, gs, r.sv⟩ :: post)) 53 ++ hpP (pre ++ ⟨ad, gs, r.sv⟩ :: post)).Perm ((bO, B ad, 53) :: (slH r.sv (encG gs) 67 ++ R)) := by
  refine ⟨fun ad => encP dir pre ++ (oC ad 8 9 10 dir (slV r.sv r.gs.length) ++ (encP dir post ++ sp)), hpP pre ++ hpP post, Mid.mid _ _ _ _ _ _ _ (lenP dir pre), fun ad gs hl => ?_⟩
  have e1 : slH (some (bO, sp, cap1)) (encP dir (pre ++ ⟨ad, gs, r.sv⟩ :: post)) 53 = [(bO, encP dir pre ++ (oC ad 8 9 10 dir (slV r.sv r.gs.length) ++ (encP dir post ++ sp)), 53)] := by
    show [(bO, encP dir (pre ++ ⟨ad, gs, r.sv⟩ :: post) ++ sp, 53)] = _
    simp [encP, RP.cells, hl]
  have e2 : hpP (pre ++ ⟨ad, gs, r.sv⟩ :: post) = hpP pre ++ (slH r.sv (encG gs) 67 ++ hpP post) := by simp [hpP]
  rw [e1, e2]
  refine List.Perm.cons _ ?_
  rw [← List.append_assoc, ← List.append_assoc]
  exact List.Perm.append_right _ List.perm_append_comm

/-- Runs as the thin package has them: where their glyphs lie. -/
structure RV where
  (ad : Int) (gs : List OG) (A : Option Addr) (cap : Nat) (Hx : Heap)
def RV.cells (dir : Int) (r : RV) : List Value := uC dir r.ad 8 9 10 (.slice r.A r.gs.length r.cap)
def RV.told (r : RV) : Int × List OG := (r.ad, r.gs)
def encV (dir : Int) (rs : List RV) : List Value := rs.flatMap (RV.cells dir)
def hpV (rs : List RV) : Heap := rs.flatMap RV.Hx
theorem lenV (dir : Int) (rs : List RV) : (encV dir rs).length = rs.length * 6 := len_flat _ 6 (fun _ => rfl) rs
def RV.Own (r : RV) : Prop := ∃ sv, r.A = svA sv ∧ r.cap = svC sv ∧ r.Hx = slH sv (encO r.gs) 38 ∧ slOk sv r.gs.length 10 (encO r.gs)
def RV.Alias (ins : List RV) (r : RV) : Prop := r.Hx = [] ∧ ∃ x ∈ ins, r.A = x.A ∧ r.cap = x.cap ∧ r.gs = x.gs
def RdV (w : World) (A : Option Addr) (dir : Int) (rs : List RV) : Prop := ∀ i r, rs[i]? = some r → r.gs.length ≤ r.cap ∧ RdO w r.A r.gs ∧ ∃ p, A = some p ∧ p.block < w.heap.size ∧ ∀ j v, (RV.cells dir r)[j]? = some v → w.cell? (p.add (i * 6 + j)) = some v
theorem RdV.keep {w0 w : World} {H : Heap} {A : Option Addr} {dir : Int} {rs : List RV} (h : RdV w0 A dir rs) (hw : Hp w0 [] H w) : RdV w A dir rs := by
  intro i r hr
  obtain ⟨hc, hR, p, rfl, hb, hcell⟩ := h i r hr
  refine ⟨hc, hR.keep hw, p, rfl, Nat.lt_of_lt_of_le hb hw.size, fun j v hj => ?_⟩
  rw [hw.oldCell (by rw [block_add]; exact hb) List.not_mem_nil]
  exact hcell j v hj
theorem rd_own {w0 w : World} {S : List Nat} {H : Heap} {rs : List RV} {r : RV} (hw : Hp w0 S H w) (hs : SubH (hpV rs) H) (hr : r ∈ rs) (ho : r.Own) : r.gs.length ≤ r.cap ∧ RdO w r.A r.gs := by
  obtain ⟨R, hR⟩ := hp_flat RV.Hx rs r hr
  obtain ⟨sv, hA, hc, hx, hok⟩ := ho
  rw [hx] at hR
  have hw2 : Hp w0 S (slH sv (encO r.gs) 38) w := ((hw.sub hs).perm hR).appendL
  rw [hA, hc]
  exact ⟨slOk_cap hok, RdO_sv hw2 .refl hok⟩
theorem rd_alias {w0 w : World} {S : List Nat} {H : Heap} {ins : List RV} {r : RV} (hw : Hp w0 S H w) (hs : SubH (hpV ins) H) (hi : ∀ x ∈ ins, x.Own) (ha : r.Alias ins) : r.gs.length ≤ r.cap ∧ RdO w r.A r.gs := by
  obtain ⟨_, x, hx, h1, h2, h3⟩ := ha
  rw [h1, h2, h3]
  exact rd_own hw hs hx (hi x hx)
theorem RdV_sv {w0 w : World} {S : List Nat} {sv : Sv} {dir : Int} {rs : List RV} {H : Heap} (hw : Hp w0 S H w) (hs : SubH (slH sv (encV dir rs) 24) H) (hok : slOk sv rs.length 6 (encV dir rs)) (hr : ∀ r ∈ rs, r.gs.length ≤ r.cap ∧ RdO w r.A r.gs) : RdV w (svA sv) dir rs := by
  have hw' := hw.sub hs
  intro i r hi
  have hmem := List.mem_of_getElem? hi
  cases sv with
  | none =>
    have h0 := hok.2
    simp only at h0
    rw [List.length_eq_zero_iff] at h0
    subst h0; simp at hi
  | some q =>
    obtain ⟨b, sp, cap⟩ := q
    refine ⟨(hr r hmem).1, (hr r hmem).2, _, rfl, hw'.lt (.head _), fun j v hj => ?_⟩
    rw [Addr.add_lit, Nat.zero_add, hw'.cell (.head _)]
    exact flat_get (RV.cells dir) 6 (fun _ => rfl) sp rs i r j v hi hj
def RP.told (r : RP) : Int × List GL := (r.ad, r.gs)
theorem RdG_in {w0 w : World} {S : List Nat} {H : Heap} {rs : List RP} {r : RP} (hw : Hp w0 S H w) (hs : SubH (hpP rs) H) (hr : r ∈ rs) (hok : slOk r.sv r.gs.length 16 (encG r.gs)) : RdG w (svA r.sv) r.gs := by
  obtain ⟨R, hR⟩ := hp_flat (fun r : RP => slH r.sv (encG r.gs) 67) rs r hr
  have hw2 : Hp w0 S (slH r.sv (encG r.gs) 67) w := ((hw.sub hs).perm hR).appendL
  exact RdG_sv hw2 .refl hok
end Go.Proofs.Ytbepljmeflndkaa
