/- More of the engine. -/
import Derived.Test.YtbepljmeflndkaaEng
namespace Go.Eng
open Go
section
variable {P : Program} {Q : Exit → Act → World → Prop} {n : Nat} {D : List Deferred} {w0 : World}
/-- 's[:h]' of a slice. -/
theorem y_sliceH {S : List Nat} {L : Slots} {H : Heap} {d : Option Tmp} {ty : TypeId} {pos : String} {af : Array Edge} {gd : Option (Nat × Bool)} {t sz : Nat} {x hi : Operand} {p : Addr} {m cap h : Nat}
    (hs : elSize P t = some sz) (hx : ev L x = some (.slice (some p) m cap)) (hhi : ev L hi = some (.int .i64 (h : Int))) (h2 : h ≤ cap) (h3 : 0 < cap) :
    Yields P n D w0 S ⟨d, .slice t x none (some hi) none, ty, pos, af, gd⟩ L H (.slice (some p) h cap) := by
  intro a w ha hw
  unfold elSize at hs
  split at hs
  · rename_i e hu
    cases hi' : P.info? e with
    | none => rw [hi'] at hs; cases hs
    | some inf =>
      rw [hi'] at hs
      simp at hs
      subst hs
      have hrun : (Instr.sliceAt t (.slice (some p) m cap) none (some (.int .i64 (h : Int))) none).run P w = .ok (.slice (some p) h cap) w := by
        have hne : ¬ cap = 0 := by omega
        have hb1 : (Instr.sliceBound (.int .i64 (h : Int)) cap .sliceAcap).run P w = .ok h w := by
          simp [Instr.sliceBound, asIntOf, h2]
        have ha0 : p.add 0 = p := by unfold Addr.add; simp
        simp [Instr.sliceAt, Instr.slice, run_underlying hu, Instr.sliceBounds, hb1, sizeOf, typeInfo, hi', hne, ha0]
      simp [execOp, ha.ev_eq hx, ha.ev_eq hhi, hrun]
  · cases hs
variable {S : List Nat} {L : Slots} {H H' : Heap}
theorem l_perm {ops : Array Oper} {l : List Oper} (hp : H.Perm H') (h : Wl P Q n D w0 S ops l L H') : Wl P Q n D w0 S ops l L H := fun a w ha hw => h a w ha (hw.perm hp)
theorem c_perm {c : Code} (hp : H.Perm H') (h : Wc P Q n D w0 S c L H') : Wc P Q n D w0 S c L H := fun a w ha hw => h a w ha (hw.perm hp)
theorem q_perm {e : Exit} (hp : H.Perm H') (h : Wq Q n D w0 S e L H') : Wq Q n D w0 S e L H := fun a w ha hw => h a w ha (hw.perm hp)
end
end Go.Eng
