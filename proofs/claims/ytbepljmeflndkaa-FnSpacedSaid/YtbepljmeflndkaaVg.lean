/- A text and a slice of runs that came in: what their cells hold. -/
import Derived.Test.YtbepljmeflndkaaO
import Derived.Test.YtbepljmeflndkaaS
namespace Go.Proofs.Ytbepljmeflndkaa
open Go.ChangeShapes Go.WideShapes Go.Deep
section
variable {H : Type} {enc : TypeId × Value → H} {w : World} {base : Nat} {spare : Nat → Bool} {held : Bool}
theorem c21' : Try.prog.cellsOf 21 = 1 := by kernel_rfl
theorem c22' : Try.prog.cellsOf 22 = 1 := by kernel_rfl
/-- A slice of letters, read as data: a list of numbers lies there. -/
theorem letters_of {a0 : Option Addr} {len cap : Nat} {d : DataW H} {p : List MemPlace} (h : DataW.Trod enc Try.prog w base spare held 29 (.slice a0 len cap) d p) : ∃ ts : List Int, ts.length = len ∧ len ≤ cap ∧ RdT w [] a0 ts := by
  obtain ⟨fuel, hf⟩ := h
  rcases open_slice Try.underlying29 hf with ⟨hcs, _⟩ | ⟨a, l, c, m, n, D, Pl, hcs, _, hl, _, hmm, _, hi⟩
  · simp [Value.cells] at hcs
    obtain ⟨rfl, rfl, rfl⟩ := hcs
    exact ⟨[], rfl, Nat.le_refl _, fun i g hg => by simp at hg⟩
  · simp [Value.cells] at hcs
    obtain ⟨rfl, rfl, rfl⟩ := hcs
    have hml : len ≤ m := by rw [hmm]; split <;> omega
    have hex : ∀ i, i < len → ∃ x : Int, w.cell? (a.add i) = some (.int .i32 x) := by
      intro i hil
      obtain ⟨cs', hc, ht⟩ := hi i (by omega)
      obtain ⟨x, e0, _, _⟩ := DataW.trod_int Try.underlying21 ht
      rw [c21'] at hc
      obtain ⟨_, hcl, hat⟩ := World.cells?_some hc
      have := hat 0 (by omega)
      rw [e0, Nat.mul_one, Eng.add_add, Nat.add_zero] at this
      exact ⟨x, by rw [this]; rfl⟩
    obtain ⟨ls, hls, hq⟩ := choose_list len hex
    refine ⟨ls, hls, hl, fun i g hg => ⟨a, rfl, ?_, List.not_mem_nil, hq i g hg⟩⟩
    have := cell_lt (hq i g hg)
    rwa [Eng.block_add] at this
theorem runs_of {a0 : Option Addr} {len cap : Nat} {d : DataW H} {p : List MemPlace} (h : DataW.Trod enc Try.prog w base spare held 30 (.slice a0 len cap) d p) : ∃ qs : List (List OG), qs.length = len ∧ len ≤ maxLen ∧ RdQ w a0 qs := by
  obtain ⟨fuel, hf⟩ := h
  rcases open_slice Try.underlying30 hf with ⟨hcs, _⟩ | ⟨a, l, c, m, n, D, Pl, hcs, _, hl, hcm, hmm, _, hi⟩
  · simp [Value.cells] at hcs
    obtain ⟨rfl, rfl, rfl⟩ := hcs
    exact ⟨[], rfl, Nat.zero_le _, fun i g hg => by simp at hg⟩
  · simp [Value.cells] at hcs
    obtain ⟨rfl, rfl, rfl⟩ := hcs
    have hml : len ≤ m := by rw [hmm]; split <;> omega
    have hex : ∀ i, i < len → ∃ x : List OG, ∃ A' cap', x.length ≤ cap' ∧ RdO w A' x ∧ w.cell? (a.add i) = some (.slice A' x.length cap') := by
      intro i hil
      obtain ⟨cs', hc, ht⟩ := hi i (by omega)
      rw [c22'] at hc
      obtain ⟨_, hcl, hat⟩ := World.cells?_some hc
      have hat0 := hat 0 (by omega)
      rw [Nat.mul_one, Eng.add_add, Nat.add_zero] at hat0
      rcases open_slice Try.underlying22 ht with ⟨e0, _⟩ | ⟨a2, l2, c2, _, _, _, _, e0, _, hl2, _, _, _, _⟩
      · refine ⟨[], none, 0, Nat.le_refl _, fun i g hg => by simp at hg, ?_⟩
        rw [hat0, e0]; rfl
      · have hT : DataW.Trod enc Try.prog w base spare held 22 (.slice (some a2) l2 c2) (D i) (Pl i) := ⟨n, by rw [e0] at ht; exact ht⟩
        obtain ⟨ls, hls, hR⟩ := glyphs_of hT
        refine ⟨ls, some a2, c2, by omega, hR, ?_⟩
        rw [hat0, e0, hls]; rfl
    obtain ⟨ls, hls, hq⟩ := choose_list len hex
    refine ⟨ls, hls, Nat.le_trans hl hcm, fun i g hg => ?_⟩
    obtain ⟨A', cap', h1, h2, h3⟩ := hq i g hg
    refine ⟨a, A', cap', rfl, ?_, h1, h2, h3⟩
    have := cell_lt h3
    rwa [Eng.block_add] at this
end
end Go.Proofs.Ytbepljmeflndkaa
