/- Part 2 of the proof about FnCharstring. -/
import Derived.Test.YtbepljmeflndkaaGreatDoorQ01
import Derived.ArgAppend
namespace Go.Eng
open Go
/-- block, what lies ahead, what lies behind, capacity -/
abbrev Fv := Option (Nat × List Value × List Value × Nat)
def fvV (fv : Fv) (m : Nat) : Value := match fv with | none => .slice none 0 0 | some (g, pre, _, cap) => .slice (some ⟨g, pre.length, none⟩) m cap
def fvH (fv : Fv) (xs : List Value) (e : TypeId) : Heap := match fv with | none => [] | some (g, pre, sp, _) => [(g, pre ++ (xs ++ sp), e)]
def fvOk (fv : Fv) (xs : List Value) : Prop := match fv with | none => xs = [] | some (_, _, sp, cap) => xs.length ≤ cap ∧ cap ≤ maxLen ∧ cap ≤ xs.length + sp.length
section
variable {P : Program} {Q : Exit → Act → World → Prop} {n : Nat} {D : List Deferred} {w0 : World} {S : List Nat} {L : Slots} {H : Heap}
variable {d : Option Tmp} {ty : TypeId} {pos : String} {af : Array Edge} {gd : Option (Nat × Bool)}
theorem run_append_room_off {w : World} (t ty e : TypeId) (i : TypeInfo) (ht : P.underlying t = some (.slice e)) (hi : P.info? e = some i)
    (g off sLen sCap : Nat) (cur : Array Value) (hg : w.heap[g]? = some (.cells cur e (0, 0)))
    (a : Addr) (m c : Nat) (news : List Value) (hl : news.length = m * i.size) (hnews : ∀ j u, news[j]? = some u → w.cell? (a.add j) = some u) (h1 : ∀ u ∈ news, u.oneCell' = true)
    (hroom : sLen + m ≤ sCap) (hfit : off + sLen * i.size + news.length ≤ cur.size) :
    (Builtin.append_ #[t, t] ty #[.slice (some ⟨g, off, none⟩) sLen sCap, .slice (some a) m c]).run P w =
      .ok (.slice (some ⟨g, off, none⟩) (sLen + m) sCap) (w.setRow g (cur.toList.take (off + sLen * i.size) ++ news ++ cur.toList.drop (off + sLen * i.size + news.length)).toArray) := by
  have hf := run_firstCells_some (P := P) w i.size m a m c news hl hnews
  have hst := run_storeCells_at P g (off + sLen * i.size) e news 0 cur w hg (by simpa using hfit) h1
  simp only [Nat.add_zero] at hst
  simp [Builtin.append_, run_underlying ht, sizeOf, typeInfo, hi, Builtin.lenOf, hroom, hf, Addr.add_lit, hst]
/-- One value more. -/
theorem g_appendF {t e : TypeId} {x y : Operand} {fv : Fv} {by_ : Nat} {xs : List Value} {u : Value} {gy cy : Nat} {sy : List Value} {ey : TypeId} {Hr : Heap} {z : Value} {inf : TypeInfo}
    (ht : isSl P t = some e) (hinf : P.info? e = some inf) (hz : inf.zero = some z) (hsz : inf.size = 1) (hby : inf.bytes = by_) (hzs : z.cells.size = 1)
    (hx : ev L x = some (fvV fv xs.length)) (hy : ev L y = some (.slice (some ⟨gy, 0, none⟩) 1 cy)) (hok : fvOk fv xs)
    (hH : H.Perm (fvH fv xs e ++ Hr)) (hmy : (gy, u :: sy, ey) ∈ H) (h1 : u.oneCell' = true) (h63 : xs.length + 1 ≤ maxLen) (hbytes : (xs.length + 1) * by_ ≤ 140737488355328) :
    Gives P n D w0 S ⟨d, .call { callee := .builtin .append, args := #[x, y], argTypes := #[t, t] }, ty, pos, af, gd⟩ L H
      (fun fv' : Fv => fvOk fv' (xs ++ [u])) (fun fv' => fvV fv' (xs ++ [u]).length) (fun fv' => fvH fv' (xs ++ [u]) e ++ Hr) := by
  intro a w ha hw
  have hw1 := hw.perm hH
  have hnews : ∀ j v, [u][j]? = some v → w.cell? ((⟨gy, 0, none⟩ : Addr).add j) = some v := by
    intro j v hj
    have hj0 : j = 0 := by have := (List.getElem?_eq_some_iff.1 hj).1; simp at this; exact this
    subst hj0
    simp at hj
    subst hj
    rw [Addr.add_lit, hw.cell hmy]
    rfl
  have hlen : (xs ++ [u]).length = xs.length + 1 := by simp
  cases fv with
  | none =>
    have hx0 : xs = [] := hok
    subst hx0
    obtain ⟨sv', w', hok', hrun, hH'⟩ := g_append (D := D) (n := n) (d := d) (ty := ty) (pos := pos) (af := af) (gd := gd) (sv := none) (m := 0) (xs := []) (news := [u]) (Hr := Hr) ht hinf hz hsz hby hzs (by decide) hx hy ⟨rfl, rfl⟩ hH hmy rfl (by simpa using h1) h63 hbytes a w ha hw
    cases sv' with
    | none => have := hok'.2; simp at this
    | some q =>
      obtain ⟨g, sp, cap⟩ := q
      refine ⟨some (g, [], sp, cap), w', ?_, hrun, hH'⟩
      have h2 := hok'.2
      simp only [List.nil_append, List.length_append, List.length_singleton] at h2
      refine ⟨by simp; omega, h2.2.1, ?_⟩
      simp only [List.nil_append, List.length_singleton]
      omega
  | some q =>
    obtain ⟨g, pre, sp, cap⟩ := q
    obtain ⟨hk1, hk2, hk3⟩ := hok
    have hb := (hw1.blk g (pre ++ (xs ++ sp)) e (by simp [fvH])).1
    by_cases hroom : xs.length + 1 ≤ cap
    · have hrun := run_append_room_off (P := P) (w := w) t ty e inf (isSl_eq ht) hinf g pre.length xs.length cap (pre ++ (xs ++ sp)).toArray hb ⟨gy, 0, none⟩ 1 cy [u] (by rw [hsz]; rfl) hnews (by simpa using h1) hroom (by rw [hsz]; simp; omega)
      rw [hsz] at hrun
      cases sp with
      | nil => simp at hk3; omega
      | cons y sp' =>
        have hcells : ((pre ++ (xs ++ y :: sp')).toArray.toList.take (pre.length + xs.length * 1) ++ [u] ++ (pre ++ (xs ++ y :: sp')).toArray.toList.drop (pre.length + xs.length * 1 + [u].length)).toArray = (pre ++ ((xs ++ [u]) ++ sp')).toArray := by
          congr 1
          have e1 : pre.length + xs.length * 1 = (pre ++ xs).length := by simp
          have e2 : pre.length + xs.length * 1 + [u].length = (pre ++ xs ++ [y]).length := by simp; omega
          rw [e2, e1]
          have a1 : pre ++ (xs ++ y :: sp') = (pre ++ xs) ++ (y :: sp') := by simp
          have a2 : pre ++ (xs ++ y :: sp') = (pre ++ xs ++ [y]) ++ sp' := by simp
          show (pre ++ (xs ++ y :: sp')).take _ ++ [u] ++ (pre ++ (xs ++ y :: sp')).drop _ = _
          rw [a1, List.take_left, ← a1, a2, List.drop_left]
          simp
        rw [hcells] at hrun
        refine ⟨some (g, pre, sp', cap), _, ⟨by rw [hlen]; exact hroom, hk2, by simp at hk3 ⊢; omega⟩, .inl ?_, hp_setRow hw1 .here⟩
        simp [execOp, resolve, invoke, builtin, ha.ev_eq hx, ha.ev_eq hy, fvV, hrun]
    · obtain ⟨v', w', hrun, hown', hgr⟩ := run_append_arg_grows (P := P) w t ty e inf z 1 by_ (isSl_eq ht) hinf hz hsz hby hzs (by decide) ⟨g, pre.length, none⟩ xs.length cap xs (by simp) (fun j v hj => by
          rw [Addr.add_lit, hw1.cell (g := g) (cs := pre ++ (xs ++ sp)) (e := e) (by simp [fvH])]
          have hjl := (List.getElem?_eq_some_iff.1 hj).1
          rw [List.getElem?_append_right (by omega), Nat.add_sub_cancel_left, List.getElem?_append_left hjl]
          exact hj) ⟨gy, 0, none⟩ 1 cy [u] rfl hnews (by omega) h63 hbytes
      obtain ⟨hl, h2⟩ := hown'
      rcases h2 with ⟨_, hm0⟩ | ⟨g', cap', cur, hv, hge, hg', hnc, hcm, hcs, htake⟩
      · omega
      · subst hv
        have hcur : cur = ((xs ++ [u]) ++ cur.toList.drop (xs.length + 1)).toArray := by
          have e3 : (xs.length + 1) * 1 = xs.length + 1 := Nat.mul_one _
          rw [e3] at htake
          rw [← htake, List.take_append_drop, Array.toArray_toList]
        have hcl : cur.toList.length = cap' := by simpa using hcs
        refine ⟨some (g', [], cur.toList.drop (xs.length + 1), cap'), w', ⟨by rw [hlen]; exact hnc, hcm, ?_⟩, .inl ?_, ?_⟩
        · rw [hlen, List.length_drop]; omega
        · simp [execOp, resolve, invoke, builtin, ha.ev_eq hx, ha.ev_eq hy, fvV, hrun]
        · have hb' : Hp w [] [(g', (xs ++ [u]) ++ cur.toList.drop (xs.length + 1), e)] w' := by
            refine ⟨hgr.os, hgr.tape, hgr.output, hgr.size, fun j hj _ => hgr.block j hj (by simp), fun g2 cs e' hm => ?_, List.pairwise_singleton _ _⟩
            simp only [List.mem_singleton, Prod.mk.injEq] at hm
            obtain ⟨rfl, rfl, rfl⟩ := hm
            exact ⟨by rw [← hcur]; exact hg', .inr hge⟩
          have h3 := Hp.frameLike (H1 := []) (Hr := fvH (some (g, pre, sp, cap)) xs e ++ Hr) hw1 hb'
          exact (h3.sub (.cons .here (.skip .refl)))
/-- 's[:k]' -/
theorem y_fvTo {t sz k : Nat} {x hi : Operand} {fv : Fv} {xs : List Value} (hs : elSize P t = some sz) (hok : fvOk fv xs) (hx : ev L x = some (fvV fv xs.length)) (hhi : ev L hi = some (.int .i64 (k : Int))) (hk : k ≤ xs.length) :
    Yields P n D w0 S ⟨d, .slice t x none (some hi) none, ty, pos, af, gd⟩ L H (fvV fv k) := by
  intro a w ha hw
  unfold elSize at hs
  split at hs
  · rename_i e hu
    cases hi' : P.info? e with
    | none => rw [hi'] at hs; cases hs
    | some inf =>
      have hb1 : ∀ cap, k ≤ cap → (Instr.sliceBound (.int .i64 (k : Int)) cap .sliceAcap).run P w = .ok k w := by
        intro cap hc
        simp [Instr.sliceBound, asIntOf, hc]
      cases fv with
      | none =>
        have : xs = [] := hok
        subst this
        have hk0 : k = 0 := by simpa using hk
        subst hk0
        have h0 := hb1 0 (Nat.le_refl _)
        simp at h0
        simp [execOp, ha.ev_eq hx, ha.ev_eq hhi, fvV, Instr.sliceAt, Instr.slice, run_underlying hu, Instr.sliceBounds, h0, sizeOf, typeInfo, hi']
      | some q =>
        obtain ⟨g, pre, sp, cap⟩ := q
        have h0 := hb1 cap (by have := hok.1; omega)
        have ha0 : (⟨g, pre.length, none⟩ : Addr).add 0 = ⟨g, pre.length, none⟩ := by simp [Addr.add]
        simp [execOp, ha.ev_eq hx, ha.ev_eq hhi, fvV, Instr.sliceAt, Instr.slice, run_underlying hu, Instr.sliceBounds, h0, sizeOf, typeInfo, hi', ha0]
  · cases hs
/-- 's[i:]' and 's[i:h]' of a slice; at the capacity's end the address stays. -/
theorem run_sliceLo {t e : TypeId} {inf : TypeInfo} (hu : P.underlying t = some (.slice e)) (hi : P.info? e = some inf) {p : Addr} {m cap i : Nat} (h1 : i ≤ m) (h2 : m ≤ cap) (w : World) :
    (Instr.sliceAt t (.slice (some p) m cap) (some (.int .i64 (i : Int))) none none).run P w = .ok (.slice (some (if cap = i then p else p.add (i * inf.size))) (m - i) (cap - i)) w := by
  have hb2 : (Instr.sliceBound (.int .i64 (i : Int)) m .sliceB).run P w = .ok i w := by
    simp [Instr.sliceBound, asIntOf, h1]
  by_cases hc : cap = i
  · have hz : cap - i = 0 := by omega
    simp [Instr.sliceAt, Instr.slice, run_underlying hu, Instr.sliceBounds, hb2, sizeOf, typeInfo, hi, hc]
  · simp [Instr.sliceAt, Instr.slice, run_underlying hu, Instr.sliceBounds, hb2, sizeOf, typeInfo, hi, hc]
theorem y_sliceLo {t sz : Nat} {x lo : Operand} {p : Addr} {m cap i : Nat} (hs : elSize P t = some sz) (hx : ev L x = some (.slice (some p) m cap)) (hlo : ev L lo = some (.int .i64 (i : Int))) (h1 : i ≤ m) (h2 : m ≤ cap) :
    Yields P n D w0 S ⟨d, .slice t x (some lo) none none, ty, pos, af, gd⟩ L H (.slice (some (if cap = i then p else p.add (i * sz))) (m - i) (cap - i)) := by
  intro a w ha hw
  unfold elSize at hs
  split at hs
  · rename_i e hu
    cases hi' : P.info? e with
    | none => rw [hi'] at hs; cases hs
    | some inf =>
      rw [hi'] at hs
      simp at hs
      subst hs
      simp [execOp, ha.ev_eq hx, ha.ev_eq hlo, run_sliceLo hu hi' h1 h2 w]
  · cases hs
theorem y_sliceLHe {t sz : Nat} {x lo hi : Operand} {p : Addr} {m cap i h : Nat} (hs : elSize P t = some sz) (hx : ev L x = some (.slice (some p) m cap)) (hlo : ev L lo = some (.int .i64 (i : Int))) (hhi : ev L hi = some (.int .i64 (h : Int))) (h1 : i ≤ h) (h2 : h ≤ cap) :
    Yields P n D w0 S ⟨d, .slice t x (some lo) (some hi) none, ty, pos, af, gd⟩ L H (.slice (some (if cap = i then p else p.add (i * sz))) (h - i) (cap - i)) := by
  intro a w ha hw
  unfold elSize at hs
  split at hs
  · rename_i e hu
    cases hi' : P.info? e with
    | none => rw [hi'] at hs; cases hs
    | some inf =>
      rw [hi'] at hs
      simp at hs
      subst hs
      have hb1 : (Instr.sliceBound (.int .i64 (h : Int)) cap .sliceAcap).run P w = .ok h w := by
        simp [Instr.sliceBound, asIntOf, h2]
      have hb2 : (Instr.sliceBound (.int .i64 (i : Int)) h .sliceB).run P w = .ok i w := by
        simp [Instr.sliceBound, asIntOf, h1]
      by_cases hc : cap = i
      · have hz : h = i := by omega
        subst hz
        subst hc
        simp [execOp, ha.ev_eq hx, ha.ev_eq hlo, ha.ev_eq hhi, Instr.sliceAt, Instr.slice, run_underlying hu, Instr.sliceBounds, hb1, hb2, sizeOf, typeInfo, hi']
      · simp [execOp, ha.ev_eq hx, ha.ev_eq hlo, ha.ev_eq hhi, Instr.sliceAt, Instr.slice, run_underlying hu, Instr.sliceBounds, hb1, hb2, sizeOf, typeInfo, hi', hc]
  · cases hs
end
end Go.Eng
