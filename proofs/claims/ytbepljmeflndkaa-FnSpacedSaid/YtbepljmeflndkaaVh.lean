/- For every text, every list of runs, every direction and both spacings: FnSpaced returns true, and its arguments read as before. No condition beside the statement's own. -/
import Derived.Test.YtbepljmeflndkaaVe
import Derived.Test.YtbepljmeflndkaaVg
namespace Go.Proofs.Ytbepljmeflndkaa
open Go.ChangeShapes Go.WideShapes Go.ChangeAt Go.RowKit

theorem Try.own2 : ownKnob Try.prog.godebug = none := by kernel_rfl
theorem Try.laidOut2 : laidOutB Try.prog = true := by kernel_rfl
theorem below_of2 {w w' : World} {H : Eng.Heap} (h : Eng.Hp w [] H w') : Below w.heap.size w w' := ⟨h.os, h.tape, h.output, h.size, fun k hk => h.old k hk List.not_mem_nil⟩

set_option maxRecDepth 100000 in
theorem fnSpaced_lifted (os : Os) (started : os.Started) (H : Type) (enc : TypeId × Value → H) :
    ReturnsInHanded {} Try.checked os 4 .any (Rows.fnSpacedSpec.pre6 enc Try.prog Try.f4 Rows.fnSpacedRow.domain false) (Rows.fnSpacedSpec.post enc Try.prog Try.f4 false true false false) := by
  refine returnsInHanded_of_change (C := Try.checked) Try.own2 started (by kernel_rfl) Try.func4
    (ChangeSpec.witness6 (enc := enc) (C := Try.checked) false ⟨#[], #[.slice none 0 0, .slice none 0 0, .int .u8 0, .int .i16 0, .int .i16 0], []⟩ 8 (by kernel_rfl) (by kernel_rfl) (by kernel_rfl) (by kernel_rfl)) ?_
  intro W base args ds gs before hval0 hW hcnd _
  have hval : ∀ (j : Nat) t v, Try.f4.params[j]? = some t → args[j]? = some v → Value.okWide Try.prog W .any base t v := hval0
  have hW' := hW
  obtain ⟨p, q, hA0, hV, rfl, hfz, hnd⟩ := hW
  have hA : DataW.TrodAll enc Try.prog W 0 (fun _ => true) true Try.f4.params.toList args.toList ds p := hA0
  rw [Try.params4] at hA hval
  obtain ⟨v0, vs0, d0, ds0, p0, q0, hargs, rfl, rfl, h0, r0⟩ := trodAll_cons hA
  obtain ⟨v1, vs1, d1, ds1, p1, q1, rfl, rfl, rfl, h1, r1⟩ := trodAll_cons r0
  obtain ⟨v2, vs2, d2, ds2, p2, q2, rfl, rfl, rfl, h2, r2⟩ := trodAll_cons r1
  obtain ⟨v3, vs3, d3, ds3, p3, q3, rfl, rfl, rfl, h3, r3⟩ := trodAll_cons r2
  obtain ⟨v4, vs4, d4, ds4, p4, q4, rfl, rfl, rfl, h4, r4⟩ := trodAll_cons r3
  obtain ⟨rfl, rfl, rfl⟩ := trodAll_nil r4
  obtain rfl : args = #[v0, v1, v2, v3, v4] := by cases args; simp_all
  obtain ⟨rfl, rfl⟩ := trodVars_none hV
  obtain ⟨a0, len0, cap0, rfl⟩ := okWide_slice Try.underlying29 (hval 0 29 v0 rfl rfl)
  obtain ⟨a1, len1, cap1, rfl⟩ := okWide_slice Try.underlying30 (hval 1 30 v1 rfl rfl)
  have k0 := h0
  have k1 := h1
  have lt0 : ∀ x ∈ p0, x.block < W.heap.size := by obtain ⟨m, hm⟩ := k0; exact DataW.trod_lt m _ _ _ hm
  have lt1 : ∀ x ∈ p1, x.block < W.heap.size := by obtain ⟨m, hm⟩ := k1; exact DataW.trod_lt m _ _ _ hm
  obtain ⟨ts, hts, hcap, hT⟩ := letters_of h0
  obtain ⟨qs, hqs, hql, hQ⟩ := runs_of h1
  obtain ⟨x2, rfl, rfl, rfl, w2⟩ := open_int Try.underlying5 (hval 2 5 v2 rfl rfl) h2
  obtain ⟨x3, rfl, rfl, rfl, w3⟩ := open_int Try.underlying31 (hval 3 31 v3 rfl rfl) h3
  obtain ⟨x4, rfl, rfl, rfl, w4⟩ := open_int Try.underlying31 (hval 4 31 v4 rfl rfl) h4
  have hd : 0 ≤ x2 ∧ x2 ≤ 255 := by
    have := w2
    simp [Lit.wf] at this
    exact this
  have hw3 : -32768 ≤ x3 ∧ x3 ≤ 32767 := by
    have := w3
    simp [Lit.wf] at this
    exact this
  have hw4 : -32768 ≤ x4 ∧ x4 ≤ 32767 := by
    have := w4
    simp [Lit.wf] at this
    exact this
  clear hA0 hval0
  subst hts hqs
  refine (f4_any W a0 a1 cap0 cap1 ts qs x2 x3 x4 hcap hT hql hQ hd hw3 hw4).mono fun e W' hout => ?_
  obtain ⟨_, _, rfl, hH⟩ := hout
  have bel := below_of2 hH
  exact ⟨_, rfl, _, _, _, [], _, [], hW', trodAll_mk1 (shut_bool Try.underlying4 _), (trodAll_cons_mk (Below.trod Try.laidOut2 (by kernel_rfl) (of_decide_eq_true (by kernel_rfl)) k0 bel lt0)
    (trodAll_cons_mk (Below.trod Try.laidOut2 (by kernel_rfl) (of_decide_eq_true (by kernel_rfl)) k1 bel lt1) (trodAll_cons_mk (shut_int Try.underlying5 w2) (trodAll_cons_mk (shut_int Try.underlying31 w3) (trodAll_cons_mk (shut_int Try.underlying31 w4) trodAll_mk0))))), rfl, bel.frame _, fun h => by cases h⟩

theorem fnSpaced_holds : Rows.FnSpacedSaid :=
  OpenClaim.holds_of_wide 4 Try.f4 rfl rfl rfl rfl rfl rfl rfl ⟨rfl, rfl, rfl, rfl, rfl⟩ rfl rfl rfl rfl rfl (by kernel_rfl) Try.func4 (by kernel_rfl)
    (of_decide_eq_true (by kernel_rfl)) (by unfold Func.isWrapper; first | (rw [if_pos (by decide +kernel)]; kernel_rfl) | (rw [if_neg (by decide +kernel)]; exact ⟨rfl, rfl⟩))
    (fun os started H enc _ => fnSpaced_lifted os started H enc)
#print axioms fnSpaced_holds
end Go.Proofs.Ytbepljmeflndkaa
