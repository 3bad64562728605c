/- Runs that are laid out, changed, and told again: what stays true of them. -/
import Derived.Test.YtbepljmeflndkaaW
namespace Go.Proofs.Ytbepljmeflndkaa
open Go.Eng

theorem upd_all {α : Type} {Q : α → Prop} {f : α → α} (hf : ∀ x, Q x → Q (f x)) {L : List α} (h : ∀ x ∈ L, Q x) (i : Nat) : ∀ x ∈ upd f L i, Q x := by
  unfold upd
  split
  · rename_i g hg
    intro x hx
    rcases List.mem_or_eq_of_mem_set hx with hx | rfl
    · exact h x hx
    · exact hf g (h g (List.mem_of_getElem? hg))
  · exact h
theorem updB_all {α : Type} {Q : α → Prop} {f : α → α} (hf : ∀ x, Q x → Q (f x)) (c : Bool) {L : List α} (h : ∀ x ∈ L, Q x) (i : Nat) : ∀ x ∈ updB c f L i, Q x := by
  cases c
  · exact h
  · exact upd_all hf h i
theorem letL_all {α : Type} {Q : α → Prop} {f t : α → α} (hf : ∀ x, Q x → Q (f x)) (ht : ∀ x, Q x → Q (t x)) (st en : Bool) (n : Nat) : ∀ (ms : List Nat) (i : Nat) (L : List α), (∀ x ∈ L, Q x) → ∀ x ∈ letL f t st en n i ms L, Q x := by
  intro ms
  induction ms with
  | nil => intro i L h; exact h
  | cons m ms ih => intro i L h; exact ih _ _ (updB_all ht _ (updB_all hf _ h _) _)
theorem xG_B (v : Bool) (s d : Int) (g : GL) (h : GB g) : GB (xG v s d g) := by
  cases v
  · exact ⟨h.w, h.h, h.xb, h.yb, wrap32_b _, wrap32_b _, h.yo⟩
  · exact ⟨h.w, h.h, h.xb, h.yb, wrap32_b _, h.xo, wrap32_b _⟩
theorem wG_B (v : Bool) (ts : List Int) (s d : Int) (g : GL) (h : GB g) : GB (wG v ts s d g) := by
  unfold wG
  cases wnt ts g.cl g.ru g.gl
  · exact h
  · exact xG_B v s d g h
theorem hG_B (v : Bool) (d : Int) (g : GL) (h : GB g) : GB (hG v d g) := by
  have := xG_B v d d g h
  exact ⟨this.w, this.h, this.xb, this.yb, this.ad, this.xo, this.yo⟩
theorem tG_B (v : Bool) (d : Int) (g : GL) (h : GB g) : GB (tG v d g) := by
  cases v
  · exact ⟨h.w, h.h, h.xb, h.yb, wrap32_b _, h.xo, h.yo⟩
  · exact ⟨h.w, h.h, h.xb, h.yb, wrap32_b _, h.xo, h.yo⟩
def GBx (x : Int × List GL) : Prop := b32 x.1 ∧ ∀ g ∈ x.2, GB g
theorem spW1_B {v : Bool} {ts : List Int} {s : Int} {x : Int × List GL} (h : GBx x) : GBx (spW1 v ts s x) := by
  refine ⟨sumW_b _, fun g hg => ?_⟩
  obtain ⟨y, hy, rfl⟩ := List.mem_map.1 hg
  exact wG_B _ _ _ _ _ (h.2 y hy)
theorem spL1_B {v : Bool} {s : Int} {st en : Bool} {x : Int × List GL} (h : GBx x) : GBx (spL1 v s st en x) := by
  refine ⟨sumW_b _, ?_⟩
  exact letL_all (hG_B _ _) (tG_B _ _) _ _ _ _ _ _ h.2
theorem spT_B {v : Bool} {ts : List Int} {word letter : Int} {n k : Nat} {x : Int × List GL} (h : GBx x) : GBx (spT v ts word letter n k x) := by
  unfold spT
  cases letter != 0 <;> cases word != 0
  · exact h
  · exact spW1_B h
  · exact spL1_B h
  · exact spL1_B (spW1_B h)

/-- A run as the law makes it. -/
structure GdV (ts : List Int) (r : RV) : Prop where
  ad : inG r.ad
  len : r.gs.length ≤ 36
  ob : ∀ g ∈ r.gs, OB g
  pos : ∀ g ∈ r.gs, (0 ≤ g.cl ∧ g.cl < ts.length) ∧ 0 ≤ g.ru
  cl : ∃ bs : List (List OG), r.gs = bs.flatten ∧ ∀ b ∈ bs, Blk1 b
def tellG (v : Bool) (r : RV) : Int × List GL := (r.ad, r.gs.map (ofO v))
def tellO (x : Int × List GL) : Int × List OG := (x.1, x.2.map toO)
theorem shp_of {ts : List Int} {r : RV} (h : GdV ts r) : ∃ ms, Shp (r.gs.map OG.gl) 0 ms := by
  obtain ⟨bs, he, hb⟩ := h.cl
  rw [he]
  exact ⟨_, sh_of hb⟩
theorem gdP_of {v : Bool} {ts : List Int} {ins : List RV} {ps : List RP} (ht : ps.map RP.told = ins.map (tellG v)) (hok : okP ps) (hg : ∀ r ∈ ins, GdV ts r) : (∀ p ∈ ps, GdP ts p) ∧ ∀ p ∈ ps, GBx p.told := by
  have key : ∀ p ∈ ps, ∃ r ∈ ins, p.ad = r.ad ∧ p.gs = r.gs.map (ofO v) := by
    intro p hp
    have h1 : p.told ∈ ins.map (tellG v) := by rw [← ht]; exact List.mem_map_of_mem hp
    obtain ⟨r, hr, he⟩ := List.mem_map.1 h1
    exact ⟨r, hr, (congrArg Prod.fst he).symm, (congrArg Prod.snd he).symm⟩
  refine ⟨fun p hp => ?_, fun p hp => ?_⟩
  · obtain ⟨r, hr, h1, h2⟩ := key p hp
    have hgd := hg r hr
    refine ⟨hok p hp, ?_, fun g hgm => ?_, ?_⟩
    · rw [h2, List.length_map]; have := hgd.len; omega
    · rw [h2] at hgm
      obtain ⟨o, ho, rfl⟩ := List.mem_map.1 hgm
      exact (hgd.pos o ho).1
    · rw [h2, List.map_map]
      exact shp_of hgd
  · obtain ⟨r, hr, h1, h2⟩ := key p hp
    have hgd := hg r hr
    refine ⟨?_, ?_⟩
    · show b32 p.ad
      rw [h1]
      have := hgd.ad
      unfold inG at this; unfold b32; omega
    · show ∀ g ∈ p.gs, GB g
      rw [h2]
      exact ofO_B v r.gs hgd.ob
theorem okP_snoc {ps : List RP} {r : RP} (h : okP ps) (hr : slOk r.sv r.gs.length 16 (encG r.gs)) : okP (ps ++ [r]) := by
  intro x hx
  rcases List.mem_append.1 hx with hx | hx
  · exact h x hx
  · rw [List.mem_singleton] at hx
    rw [hx]
    exact hr
theorem own_snoc {us : List RV} {r : RV} (h : ∀ u ∈ us, u.Own) (hr : r.Own) : ∀ u ∈ us ++ [r], u.Own := by
  intro x hx
  rcases List.mem_append.1 hx with hx | hx
  · exact h x hx
  · rw [List.mem_singleton] at hx
    rw [hx]
    exact hr
theorem told_snoc {α β γ : Type} {p : α → γ} {q : β → γ} {l : List α} {ins : List β} {k : Nat} {r : β} {x : α} (h : l.map p = (ins.take k).map q) (hr : ins[k]? = some r) (hx : p x = q r) : (l ++ [x]).map p = (ins.take (k + 1)).map q := by
  rw [take_succ' hr, List.map_append, List.map_append, h]
  simp [hx]
theorem encP_at {dir : Int} {rs : List RP} {sp : List Value} {k : Nat} {q : RP} (h : rs[k]? = some q) : ((encP dir rs ++ sp).drop (k * 14)).take 14 = RP.cells dir q := flat_at (RP.cells dir) 14 (fun _ => rfl) sp rs k q h
theorem oC_all (a b c d e : Int) (sv : Sv) (m : Nat) : ∀ u ∈ oC a b c d e (slV sv m), u.oneCell' = true := List.all_eq_true.1 (oC_one a b c d e sv m)
theorem uC_all (a b c d e : Int) (sv : Sv) (m : Nat) : ∀ u ∈ uC a b c d e (slV sv m), u.oneCell' = true := List.all_eq_true.1 (uC_one a b c d e sv m)
theorem swap23 {α : Type} (a b c : List α) : ((a ++ b) ++ c).Perm ((a ++ c) ++ b) := by
  rw [List.append_assoc, List.append_assoc]
  exact List.Perm.append_left _ List.perm_append_comm
theorem swap24 {α : Type} (a b c d : List α) : (((a ++ b) ++ c) ++ d).Perm ((a ++ (b ++ d)) ++ c) := by
  rw [← List.append_assoc a b d]
  exact swap23 _ _ _
theorem fin13 {α : Type} (a b c d : List α) : (a ++ ((b ++ c) ++ d)).Perm ((d ++ c) ++ (a ++ b)) := by
  have h1 : (a ++ ((b ++ c) ++ d)).Perm ((a ++ b) ++ (d ++ c)) := by
    rw [List.append_assoc a b, List.append_assoc b c]
    exact List.Perm.append_left _ (List.Perm.append_left _ List.perm_append_comm)
  exact h1.trans List.perm_append_comm
theorem tell_spT {v : Bool} {ts : List Int} {word letter : Int} {n : Nat} {ins : List RV} {ps : List RP} {ps' : List RP} {us : List RV} (ht : ps.map RP.told = ins.map (tellG v)) (hn : ps.length = n) (h' : ps' = mapI (spP v ts word letter ps.length) 0 ps)
    (hu : us.map RV.told = ps'.map (fun p => tellO p.told)) : us.map RV.told = (mapI (spT v ts word letter n) 0 (ins.map (tellG v))).map tellO := by
  have h1 : ps'.map RP.told = mapI (spT v ts word letter n) 0 (ins.map (tellG v)) := by
    rw [h', hn, ← ht]
    exact mapI_map (f := spP v ts word letter n) (f' := spT v ts word letter n) (p := RP.told) (fun _ _ => rfl) _ _
  rw [hu, ← h1, List.map_map]
  rfl
theorem spP_ok {v : Bool} {ts : List Int} {word letter : Int} {n : Nat} {ps ps' : List RP} (hg : ∀ p ∈ ps, GdP ts p) (hB : ∀ p ∈ ps, GBx p.told) (h' : ps' = mapI (spP v ts word letter n) 0 ps) :
    ps'.length = ps.length ∧ ∀ q ∈ ps', slOk q.sv q.gs.length 16 (encG q.gs) ∧ q.gs.length ≤ 1000 ∧ GBx q.told := by
  refine ⟨by rw [h', mapI_len], fun q hq => ?_⟩
  rw [h'] at hq
  obtain ⟨j, p, hp, rfl⟩ := mapI_mem _ _ _ hq
  have hgd := hg p hp
  have hl : (spP v ts word letter n j p).gs.length = p.gs.length := spT_len (x := (p.ad, p.gs))
  refine ⟨?_, by rw [hl]; exact hgd.len, spT_B (hB p hp)⟩
  rw [hl]
  exact slOk_G hgd.ok hl
theorem slOk_P {sv : Sv} {dir : Int} {L M : List RP} (h : slOk sv L.length 14 (encP dir L)) (hl : M.length = L.length) : slOk sv M.length 14 (encP dir M) := by
  have e : (encP dir M).length = (encP dir L).length := by rw [lenP, lenP, hl]
  refine ⟨by rw [e, hl]; exact h.1, ?_⟩
  cases sv with
  | none => have := h.2; simp only at this ⊢; omega
  | some q => exact ⟨by rw [hl]; exact h.2.1, h.2.2.1, by rw [List.length_append, e, ← List.length_append]; exact h.2.2.2⟩
end Go.Proofs.Ytbepljmeflndkaa
