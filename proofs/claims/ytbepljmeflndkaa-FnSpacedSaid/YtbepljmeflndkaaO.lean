/- A slice of glyphs that came in: what its cells hold. -/
import Derived.Test.YtbepljmeflndkaaD
import Derived.ProofKit
import Derived.OpenShut
import Derived.Deep.Slices
import Derived.Deep.Fields
import Derived.ChangeSame
namespace Go.Proofs.Ytbepljmeflndkaa
open Go.ChangeShapes Go.WideShapes Go.Deep
section
variable {H : Type} {enc : TypeId × Value → H} {P : Program} {w : World} {base : Nat} {spare : Nat → Bool} {held : Bool}
theorem open_slice_fields {t e : TypeId} {fs : Array Field} {fuel : Nat} {cs : List Value} {x : DataW H × List MemPlace} (ht : P.underlying t = some (.slice e)) (he : P.underlying e = some (.struct fs))
    (hone : oneCellFields P fs = true) (hC : P.cellsOf e = fs.size) (h : DataW.trod enc P w base spare held fuel t cs = some x) :
    (cs = [.slice none 0 0] ∧ x = (.nil, [])) ∨
    ∃ (a : Addr) (len cap m : Nat) (D : Nat → DataW H) (Pl : Nat → List MemPlace), cs = [.slice (some a) len cap] ∧ base ≤ a.block ∧ len ≤ cap ∧ cap ≤ maxLen ∧ m = (if spare a.block then cap else len) ∧
      x = (.slice ((List.range len).map D) ((List.range (m - len)).map fun j => D (len + j)), MemPlace.row a (m * fs.size) ++ (List.range m).flatMap Pl) ∧
      ∀ i, i < m → ∃ (ys : List (DataW H × List MemPlace)) (n : Nat), D i = .agg (ys.map (·.1)) ∧ Pl i = ys.flatMap (·.2) ∧ ys.length = fs.size ∧
        ∀ (j : Nat) (f : Field), fs[j]? = some f → ∃ (v : Value) (y : DataW H × List MemPlace), w.cell? (a.add (i * fs.size + j)) = some v ∧ ys[j]? = some y ∧ DataW.trod enc P w base spare held n f.type [v] = some y := by
  rcases open_slice ht h with h0 | ⟨a, len, cap, m, n, D, Pl, hcs, hb, hl, hm, hmm, hx, hi⟩
  · exact .inl h0
  · refine .inr ⟨a, len, cap, m, D, Pl, hcs, hb, hl, hm, hmm, by rw [hC] at hx; exact hx, fun i him => ?_⟩
    obtain ⟨cs', hc, ht'⟩ := hi i him
    rw [hC] at hc
    obtain ⟨ys, n', hn', hy, hlen, hyl, hf⟩ := DataW.trod_struct he ht'
    obtain ⟨_, hcl, hat⟩ := World.cells?_some hc
    simp only [Prod.mk.injEq] at hy
    refine ⟨ys, n', hy.1, hy.2, hyl, fun j f hj => ?_⟩
    obtain ⟨ho, hk⟩ := hone_of hone j f hj
    have hjl : j < fs.size := (Array.getElem?_eq_some_iff.1 hj).1
    have hcell := hat j hjl
    have hv : cs'[j]? = some (cs'[j]'(by omega)) := List.getElem?_eq_getElem (by omega)
    have h1 := hf j f hj
    rw [ho, hk] at h1
    have hone' : (cs'.drop j).take 1 = [cs'[j]'(by omega)] := by
      rw [List.drop_eq_getElem_cons (by omega)]
      rfl
    rw [hone'] at h1
    have hys : ys[j]? = some (ys[j]'(by omega)) := List.getElem?_eq_getElem (by omega)
    refine ⟨_, _, ?_, hys, h1.trans hys⟩
    rw [← Go.Deep.add_add, hcell, hv]
end

theorem choose_list {α : Type} {Q : Nat → α → Prop} : ∀ n : Nat, (∀ i, i < n → ∃ x, Q i x) → ∃ l : List α, l.length = n ∧ ∀ i x, l[i]? = some x → Q i x := by
  intro n
  induction n with
  | zero => intro _; exact ⟨[], rfl, fun i x h => by simp at h⟩
  | succ n ih =>
    intro h
    obtain ⟨l, hl, hq⟩ := ih (fun i hi => h i (by omega))
    obtain ⟨x, hx⟩ := h n (by omega)
    refine ⟨l ++ [x], by simp [hl], fun i y hy => ?_⟩
    rcases Nat.lt_or_ge i n with hlt | hge
    · rw [List.getElem?_append_left (by omega)] at hy; exact hq i y hy
    · have : i = n := by
        rcases Nat.lt_or_ge i (n + 1) with h1 | h1
        · omega
        · rw [List.getElem?_eq_none (by simp; omega)] at hy; cases hy
      subst this
      rw [List.getElem?_append_right (by omega), hl, Nat.sub_self] at hy
      simp at hy
      subst hy
      exact hx

theorem cell_lt {w : World} {a : Addr} {v : Value} (h : w.cell? a = some v) : a.block < w.heap.size := by
  unfold World.cell? at h
  rcases Nat.lt_or_ge a.block w.heap.size with hl | hl
  · exact hl
  · rw [Array.getElem?_eq_none hl] at h; cases h

theorem c38 : Try.prog.cellsOf 38 = 10 := by kernel_rfl
theorem one38 {fs : Array Field} (h : Try.prog.underlying 38 = some (.struct fs)) : oneCellFields Try.prog fs = true ∧ fs.size = 10 ∧ ∀ j, j < 10 → ∃ f, fs[j]? = some f ∧ f.type = 3 := by
  have h1 : ∃ fs, Try.prog.underlying 38 = some (.struct fs) ∧ oneCellFields Try.prog fs = true ∧ fs.toList.map (fun f => f.type) = [3, 3, 3, 3, 3, 3, 3, 3, 3, 3] := ⟨_, Try.underlying38, by kernel_rfl, by kernel_rfl⟩
  obtain ⟨fs', h2, h3, h4⟩ := h1
  rw [h] at h2
  injection h2 with h2
  injection h2 with h2
  subst h2
  have hs : fs.size = 10 := by
    have := congrArg List.length h4
    simpa using this
  refine ⟨h3, hs, fun j hj => ?_⟩
  have hlt : j < fs.size := by omega
  refine ⟨fs[j], Array.getElem?_eq_getElem hlt, ?_⟩
  have h5 : (fs.toList.map (fun f => f.type))[j]? = some (fs[j]).type := by simp [hlt]
  rw [h4] at h5
  have h6 : ∀ j, j < 10 → ([3, 3, 3, 3, 3, 3, 3, 3, 3, 3] : List Nat)[j]? = some 3 := by decide
  have h7 := h6 j hj
  rw [h5] at h7
  exact Option.some.inj h7

section
variable {H : Type} {enc : TypeId × Value → H} {w : World} {base : Nat} {spare : Nat → Bool} {held : Bool}
/-- A slice of glyphs, read as data: a list of glyphs lies there. -/
theorem glyphs_of {a0 : Option Addr} {len cap : Nat} {d : DataW H} {p : List MemPlace} (h : DataW.Trod enc Try.prog w base spare held 22 (.slice a0 len cap) d p) : ∃ ls : List OG, ls.length = len ∧ RdO w a0 ls := by
  obtain ⟨fuel, hf⟩ := h
  obtain ⟨hone, hsz, hft⟩ := one38 Try.underlying38
  rcases open_slice_fields Try.underlying22 Try.underlying38 hone (c38.trans hsz.symm) hf with ⟨hcs, _⟩ | ⟨a, l, c, m, D, Pl, hcs, _, hl, _, hmm, _, hi⟩
  · simp [Value.cells] at hcs
    obtain ⟨rfl, rfl, rfl⟩ := hcs
    exact ⟨[], rfl, fun i g hg => by simp at hg⟩
  · simp [Value.cells] at hcs
    obtain ⟨rfl, rfl, rfl⟩ := hcs
    have hml : len ≤ m := by rw [hmm]; split <;> omega
    have hex : ∀ i, i < len → ∃ g : OG, ∀ j v, (OG.cells g)[j]? = some v → w.cell? (a.add (i * 10 + j)) = some v := by
      intro i hil
      obtain ⟨ys, n, _, _, _, hfs⟩ := hi i (by omega)
      rw [hsz] at hfs
      have hc : ∀ j, j < 10 → ∃ x : Int, w.cell? (a.add (i * 10 + j)) = some (.int .i64 x) := by
        intro j hj
        obtain ⟨f, hfj, hty⟩ := hft j hj
        obtain ⟨v, y, hcell, _, hy⟩ := hfs j f hfj
        rw [hty] at hy
        obtain ⟨x, e0, _, _⟩ := DataW.trod_int Try.underlying3 hy
        simp at e0
        exact ⟨x, by rw [hcell, e0]⟩
      obtain ⟨x0, h0⟩ := hc 0 (by omega)
      obtain ⟨x1, h1⟩ := hc 1 (by omega)
      obtain ⟨x2, h2⟩ := hc 2 (by omega)
      obtain ⟨x3, h3⟩ := hc 3 (by omega)
      obtain ⟨x4, h4⟩ := hc 4 (by omega)
      obtain ⟨x5, h5⟩ := hc 5 (by omega)
      obtain ⟨x6, h6⟩ := hc 6 (by omega)
      obtain ⟨x7, h7⟩ := hc 7 (by omega)
      obtain ⟨x8, h8⟩ := hc 8 (by omega)
      obtain ⟨x9, h9⟩ := hc 9 (by omega)
      refine ⟨⟨x0, x1, x2, x3, x4, x5, x6, x7, x8, x9⟩, fun j v hj => ?_⟩
      match j, hj with
      | 0, hj => simp [OG.cells] at hj; subst hj; exact h0
      | 1, hj => simp [OG.cells] at hj; subst hj; exact h1
      | 2, hj => simp [OG.cells] at hj; subst hj; exact h2
      | 3, hj => simp [OG.cells] at hj; subst hj; exact h3
      | 4, hj => simp [OG.cells] at hj; subst hj; exact h4
      | 5, hj => simp [OG.cells] at hj; subst hj; exact h5
      | 6, hj => simp [OG.cells] at hj; subst hj; exact h6
      | 7, hj => simp [OG.cells] at hj; subst hj; exact h7
      | 8, hj => simp [OG.cells] at hj; subst hj; exact h8
      | 9, hj => simp [OG.cells] at hj; subst hj; exact h9
      | j + 10, hj => simp [OG.cells] at hj
    obtain ⟨ls, hls, hq⟩ := choose_list len hex
    refine ⟨ls, hls, fun i g hg => ⟨a, rfl, ?_, hq i g hg⟩⟩
    have := cell_lt (hq i g hg 0 _ rfl)
    rwa [Eng.block_add] at this
end
end Go.Proofs.Ytbepljmeflndkaa
