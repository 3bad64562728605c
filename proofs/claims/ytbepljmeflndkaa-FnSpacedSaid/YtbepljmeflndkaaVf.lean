/- Closed facts and small lemmas for FnSpaced. -/
import Derived.Test.YtbepljmeflndkaaVc
namespace Go.Proofs.Ytbepljmeflndkaa
open Go.Eng
set_option maxRecDepth 100000
def g5 : OG := ⟨0, 0, 0, 0, 5, 0, 0, 0, 0, 0⟩
theorem enc_g5 : encO [g5] ++ [] = OG.cells g5 ++ [] := rfl
theorem dir0 : 0 ≤ Int.tmod 0 4 ∧ Int.tmod 0 4 ≤ 3 := by decide
theorem ok_g5 : slOk (some (0, [], 1)) [g5].length 10 (encO [g5]) := ⟨rfl, Nat.le_refl _, by unfold maxLen; omega, rfl⟩
theorem sub_rl {A B C : Heap} : SubH B (A ++ (B ++ C)) := by rw [← List.append_assoc]; exact .left .right
theorem sub_rr {A B C : Heap} : SubH C (A ++ (B ++ C)) := by rw [← List.append_assoc]; exact .right
theorem and4 {k n : Nat} (h : decide ((k : Int) < (n : Int)) = true) : decide ((k : Int) < 4) = (decide (k < n) && decide (k < 4)) := by
  have h1 : k < n := by simpa using h
  rw [decide_eq_true h1, Bool.true_and, Bool.eq_iff_iff, decide_eq_true_eq, decide_eq_true_eq]
  omega
theorem and4f {k n : Nat} (h : decide ((k : Int) < (n : Int)) = false) : false = (decide (k < n) && decide (k < 4)) := by
  have h1 : ¬ k < n := by simpa using h
  rw [decide_eq_false h1]; rfl
theorem and_dec {k n : Nat} (h : (decide (k < n) && decide (k < 4)) = true) : k < n ∧ k < 4 := by simpa using h
theorem take_all4 {α : Type} {k : Nat} {qs : List (List OG)} {l : List α} {f : List OG → α} (h : l = (qs.take k).map f) (hc : (decide (k < qs.length) && decide (k < 4)) = false) (h1 : k ≤ qs.length) (h4 : k ≤ 4) : l = (qs.take 4).map f := by
  rw [h]
  have : k = qs.length ∨ k = 4 := by
    by_cases ha : k < qs.length
    · right
      rw [decide_eq_true ha, Bool.true_and, decide_eq_false_iff_not] at hc
      omega
    · left; omega
  rcases this with rfl | rfl
  · rw [List.take_of_length_le (Nat.le_refl _), List.take_of_length_le h4]
  · rfl
theorem gl_bd {v : Bool} {tx : List Int} {word letter : Int} {n : Nat} {us rp : List RV} (hg : ∀ u ∈ us, GdV tx u) (h : rp.map RV.told = (mapI (spT v tx word letter n) 0 (us.map (tellG v))).map tellO) : ∀ r ∈ rp, r.gs.length ≤ 1000 := by
  intro r hr
  have h1 : r.told ∈ (mapI (spT v tx word letter n) 0 (us.map (tellG v))).map tellO := by rw [← h]; exact List.mem_map_of_mem hr
  obtain ⟨x, hx, he⟩ := List.mem_map.1 h1
  obtain ⟨j, y, hy, rfl⟩ := mapI_mem _ _ _ hx
  obtain ⟨u, hu, rfl⟩ := List.mem_map.1 hy
  have h2 : r.gs = (spT v tx word letter n j (tellG v u)).2.map toO := (congrArg Prod.snd he).symm
  have h3 := (hg u hu).len
  have h4 : (spT v tx word letter n j (tellG v u)).2.length = (tellG v u).2.length := spT_len
  have h5 : (tellG v u).2.length = u.gs.length := List.length_map _
  rw [h2, List.length_map]
  omega
theorem ad69 {X : List GL} (h : X = ((someL 1 [g5]).map (ofO (decide ((2 : Int) ≤ Int.tmod 0 4)))).map (wG (decide ((2 : Int) ≤ Int.tmod 0 4)) [32] 64 (IntKind.i32.wrap (Int.tdiv 64 2)))) : sumW X = 69 := by subst h; rfl
theorem ad37 {X : List GL} (h : X = letL (hG (decide ((2 : Int) ≤ Int.tmod 0 4)) (IntKind.i32.wrap (Int.tdiv 64 2))) (tG (decide ((2 : Int) ≤ Int.tmod 0 4)) (IntKind.i32.wrap (Int.tdiv 64 2))) true false ((someL 1 [g5]).map (ofO (decide ((2 : Int) ≤ Int.tmod 0 4)))).length 0 [1] ((someL 1 [g5]).map (ofO (decide ((2 : Int) ≤ Int.tmod 0 4))))) : sumW X = 37 := by subst h; rfl
theorem shp5 : Shp (((someL 1 [g5]).map (ofO (decide ((2 : Int) ≤ Int.tmod 0 4)))).map GL.gl) 0 [1] := ⟨rfl, rfl, by simp⟩
end Go.Proofs.Ytbepljmeflndkaa
