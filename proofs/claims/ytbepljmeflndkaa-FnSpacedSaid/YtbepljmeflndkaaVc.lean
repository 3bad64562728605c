/- The package's spacing and the reference's are one, where nothing wraps. -/
import Derived.Test.YtbepljmeflndkaaY
namespace Go.Eng
open Go
/-- Where a struct's one-cell field lies. -/
def fAt (P : Program) (s f : Nat) : Option Nat :=
  match P.underlying s with
  | some (.struct fs) => match fs[f]? with
    | some x => match P.underlying x.type with
      | some (.struct _) => none
      | some (.array _ _) => none
      | some _ => some x.offset
      | none => none
    | none => none
  | _ => none
theorem y_field {P : Program} {n : Nat} {D : List Deferred} {w0 : World} {S : List Nat} {L : Slots} {H : Heap} {d : Option Tmp} {ty : TypeId} {pos : String} {af : Array Edge} {gd : Option (Nat × Bool)} {s f off : Nat} {x : Operand} {cs : List Value} {v : Value}
    (hf : fAt P s f = some off) (hx : ev L x = some (.agg cs.toArray)) (hv : cs[off]? = some v) : Yields P n D w0 S ⟨d, .field s x f, ty, pos, af, gd⟩ L H v := by
  intro a w ha hw
  unfold fAt at hf
  split at hf
  · rename_i fs hu
    split at hf
    · rename_i y hy
      have fin : (isAgg y.type).run P w = .ok false w → some y.offset = some off → (execOp a.eval ⟨d, .field s x f, ty, pos, af, gd⟩).run P w = .ok (.value v) w := by
        intro hagg he
        injection he with he
        subst he
        simp [execOp, ha.ev_eq hx, Instr.field, run_underlying hu, hy, part, asAgg, hagg, hv]
      split at hf
      · cases hf
      · cases hf
      · rename_i u h1 h2 hu2
        refine fin ?_ hf
        cases u <;> first | exact absurd rfl (h1 _) | exact absurd rfl (h2 _ _) | simp [isAgg, run_underlying hu2]
      · cases hf
    · cases hf
  · cases hf
end Go.Eng
namespace Go.Proofs.Ytbepljmeflndkaa
open Go.Eng

structure Bd (B : Nat) (g : GL) : Prop where
  ad : -(B : Int) ≤ g.ad ∧ g.ad ≤ B
  xo : -(B : Int) ≤ g.xo ∧ g.xo ≤ B
  yo : -(B : Int) ≤ g.yo ∧ g.yo ≤ B
theorem Bd.mono {B C : Nat} {g : GL} (h : Bd B g) (hc : B ≤ C) : Bd C g := by
  obtain ⟨h1, h2, h3⟩ := h
  exact ⟨by omega, by omega, by omega⟩
theorem wr {a b : Int} {B D : Nat} (ha : -(B : Int) ≤ a ∧ a ≤ B) (hb : -(D : Int) ≤ b ∧ b ≤ D) (h : B + D ≤ 2147483647) : IntKind.i32.wrap (a + b) = a + b ∧ IntKind.i64.wrap (a + b) = a + b ∧ -((B + D : Nat) : Int) ≤ a + b ∧ a + b ≤ ((B + D : Nat) : Int) := by
  refine ⟨wrap32_in (by omega) (by omega), w64 (by omega) (by omega), by omega, by omega⟩
theorem xG_O {v : Bool} {s d : Int} {B D : Nat} {g : GL} (hg : Bd B g) (hs : -(D : Int) ≤ s ∧ s ≤ D) (hd : -(D : Int) ≤ d ∧ d ≤ D) (h : B + D ≤ 2147483647) : toO (xG v s d g) = mvO v d (adO s (toO g)) ∧ Bd (B + D) (xG v s d g) := by
  have h1 := wr hg.ad hs h
  have h2 := wr hg.xo hd h
  have h3 := wr hg.yo hd h
  have hm := hg.mono (Nat.le_add_right B D)
  cases v
  · refine ⟨?_, ⟨?_, ?_, hm.yo⟩⟩
    · simp only [xG, mvO, adO, toO, cond_false, h1.1, h1.2.1, h2.1, h2.2.1]
    · simp only [xG, cond_false, h1.1]; exact h1.2.2
    · simp only [xG, cond_false, h2.1]; exact h2.2.2
  · refine ⟨?_, ⟨?_, hm.xo, ?_⟩⟩
    · simp only [xG, mvO, adO, toO, cond_true, h1.1, h1.2.1, h3.1, h3.2.1]
    · simp only [xG, cond_true, h1.1]; exact h1.2.2
    · simp only [xG, cond_true, h3.1]; exact h3.2.2
theorem wG_O {v : Bool} {ts : List Int} {s d : Int} {B D : Nat} {g : GL} (hg : Bd B g) (hs : -(D : Int) ≤ s ∧ s ≤ D) (hd : -(D : Int) ≤ d ∧ d ≤ D) (h : B + D ≤ 2147483647) : toO (wG v ts s d g) = wO v ts s d (toO g) ∧ Bd (B + D) (wG v ts s d g) := by
  unfold wG wO
  show toO (bif wnt ts g.cl g.ru g.gl then _ else _) = (bif wnt ts g.cl g.ru g.gl then _ else _) ∧ _
  cases wnt ts g.cl g.ru g.gl
  · exact ⟨rfl, hg.mono (Nat.le_add_right B D)⟩
  · exact xG_O hg hs hd h
theorem hG_O {v : Bool} {d : Int} {B D : Nat} {g : GL} (hg : Bd B g) (hd : -(D : Int) ≤ d ∧ d ≤ D) (h : B + D ≤ 2147483647) : toO (hG v d g) = hO v d (toO g) ∧ Bd (B + D) (hG v d g) := by
  have h1 := xG_O (v := v) hg hd hd h
  exact ⟨h1.1, ⟨h1.2.ad, h1.2.xo, h1.2.yo⟩⟩
theorem tG_O {v : Bool} {d : Int} {B D : Nat} {g : GL} (hg : Bd B g) (hd : -(D : Int) ≤ d ∧ d ≤ D) (h : B + D ≤ 2147483647) : toO (tG v d g) = adO d (toO g) ∧ Bd (B + D) (tG v d g) := by
  have h1 := wr hg.ad hd h
  have hm := hg.mono (Nat.le_add_right B D)
  cases v
  · refine ⟨?_, ⟨?_, hm.xo, hm.yo⟩⟩
    · simp only [tG, adO, toO, cond_false, h1.1, h1.2.1]
    · simp only [tG, cond_false, h1.1]; exact h1.2.2
  · refine ⟨?_, ⟨?_, hm.xo, hm.yo⟩⟩
    · simp only [tG, adO, toO, cond_true, h1.1, h1.2.1]
    · simp only [tG, cond_true, h1.1]; exact h1.2.2
theorem updB_O {f : GL → GL} {f' : OG → OG} {B D : Nat} (hf : ∀ g, Bd B g → toO (f g) = f' (toO g) ∧ Bd (B + D) (f g)) (c : Bool) {L : List GL} (hL : ∀ g ∈ L, Bd B g) (i : Nat) :
    (updB c f L i).map toO = updB c f' (L.map toO) i ∧ ∀ g ∈ updB c f L i, Bd (B + D) g := by
  cases c
  · exact ⟨rfl, fun g hg => (hL g hg).mono (Nat.le_add_right B D)⟩
  · show (upd f L i).map toO = upd f' (L.map toO) i ∧ ∀ g ∈ upd f L i, Bd (B + D) g
    unfold upd
    rw [List.getElem?_map]
    cases hi : L[i]? with
    | none => exact ⟨rfl, fun g hg => (hL g hg).mono (Nat.le_add_right B D)⟩
    | some g =>
      have h := hf g (hL g (List.mem_of_getElem? hi))
      refine ⟨?_, fun x hx => ?_⟩
      · simp only [Option.map_some]
        rw [List.map_set, h.1]
      · rcases List.mem_or_eq_of_mem_set hx with hx | rfl
        · exact (hL x hx).mono (Nat.le_add_right B D)
        · exact h.2
theorem letL_O {h t : GL → GL} {h' t' : OG → OG} {C D : Nat} (hh : ∀ B g, B + D ≤ C → Bd B g → toO (h g) = h' (toO g) ∧ Bd (B + D) (h g)) (ht : ∀ B g, B + D ≤ C → Bd B g → toO (t g) = t' (toO g) ∧ Bd (B + D) (t g)) (st en : Bool) (n : Nat) :
    ∀ (ms : List Nat) (i B : Nat) (L : List GL), B + 2 * D * ms.length ≤ C → (∀ g ∈ L, Bd B g) → (letL h t st en n i ms L).map toO = letL h' t' st en n i ms (L.map toO) ∧ ∀ g ∈ letL h t st en n i ms L, Bd (B + 2 * D * ms.length) g := by
  intro ms
  induction ms with
  | nil => intro i B L _ hL; exact ⟨rfl, fun g hg => (hL g hg).mono (by simp)⟩
  | cons m ms ih =>
    intro i B L hC hL
    rw [List.length_cons] at hC ⊢
    have e : 2 * D * (ms.length + 1) = 2 * D * ms.length + D + D := by rw [Nat.mul_succ]; omega
    rw [e] at hC ⊢
    have h1 := updB_O (fun g hg => hh B g (by omega) hg) (decide (0 < i) || !st) hL i
    have h2 := updB_O (fun g hg => ht (B + D) g (by omega) hg) (decide (i + m < n) || !en) h1.2 (i + m - 1)
    have h3 := ih (i + m) (B + D + D) _ (by omega) h2.2
    rw [h2.1, h1.1] at h3
    refine ⟨h3.1, fun g hg => ?_⟩
    have := h3.2 g hg
    exact this.mono (by omega)
theorem sum_bd : ∀ (L : List GL) (B : Nat), (∀ g ∈ L, Bd B g) → B * L.length ≤ 2147483647 → sumW L = sumI (L.map toO) := by
  intro L B hL hB
  unfold sumW sumI
  suffices hs : ∀ (l : List GL) (a : Int) (m : Nat), (∀ g ∈ l, Bd B g) → (m + l.length) * B ≤ 2147483647 → -((m * B : Nat) : Int) ≤ a → a ≤ ((m * B : Nat) : Int) →
      l.foldl (fun s g => IntKind.i32.wrap (s + g.ad)) a = (l.map toO).foldl (fun s g => IntKind.i64.wrap (s + g.ad)) a from hs L 0 0 hL (by rw [Nat.zero_add, Nat.mul_comm]; exact hB) (by simp) (by simp)
  intro l
  induction l with
  | nil => intro a m _ _ _ _; rfl
  | cons g l ih =>
    intro a m hb hm h1 h2
    have hg := (hb g (by simp)).ad
    have e : (m + 1) * B = m * B + B := Nat.succ_mul m B
    have hle : (m + 1) * B ≤ 2147483647 := Nat.le_trans (Nat.mul_le_mul_right B (by simp only [List.length_cons]; omega)) hm
    have h3 := wr ⟨h1, h2⟩ hg (by omega)
    simp only [List.foldl_cons, List.map_cons]
    have e2 : (toO g).ad = g.ad := rfl
    rw [e2, h3.1, h3.2.1]
    refine ih (a + g.ad) (m + 1) (fun x hx => hb x (by simp [hx])) ?_ ?_ ?_
    · simp only [List.length_cons] at hm
      have : m + 1 + l.length = m + (l.length + 1) := by omega
      rw [this]; exact hm
    · rw [e]; exact h3.2.2.1
    · rw [e]; exact h3.2.2.2
theorem half_in {s : Int} (h : -32768 ≤ s ∧ s ≤ 32767) : IntKind.i32.wrap (s.tdiv 2) = s.tdiv 2 ∧ IntKind.i64.wrap (s.tdiv 2) = s.tdiv 2 ∧ -(32768 : Nat) ≤ s.tdiv 2 ∧ s.tdiv 2 ≤ (32768 : Nat) := by
  have h2 := tdiv2 s
  refine ⟨wrap32_in (by omega) (by omega), w64 (by omega) (by omega), by omega, by omega⟩
theorem ms_len {sh : List Int} (h : ∃ ms, Shp sh 0 ms) : (msOf sh).length ≤ sh.length := by
  obtain ⟨_, h2, h3⟩ := msOf_ok h
  have : ∀ l : List Nat, (∀ m ∈ l, 1 ≤ m) → l.length ≤ l.sum := by
    intro l
    induction l with
    | nil => intro _; simp
    | cons m l ih =>
      intro hm
      have h1 := hm m (by simp)
      have h2 := ih (fun x hx => hm x (by simp [hx]))
      simp only [List.length_cons, List.sum_cons]
      omega
  have := this _ h3
  omega
theorem spW_O {v : Bool} {ts : List Int} {s : Int} {x : Int × List GL} (hs : -32768 ≤ s ∧ s ≤ 32767) (hx : ∀ g ∈ x.2, Bd 1048576 g) (hl : x.2.length ≤ 36) :
    tellO (spW1 v ts s x) = srW1 v ts s (tellO x) ∧ ∀ g ∈ (spW1 v ts s x).2, Bd 1081344 g := by
  obtain ⟨h1, h2, h3, h4⟩ := half_in hs
  have hstep : ∀ g ∈ x.2, toO (wG v ts s (s.tdiv 2) g) = wO v ts s (s.tdiv 2) (toO g) ∧ Bd 1081344 (wG v ts s (s.tdiv 2) g) := fun g hg => wG_O (B := 1048576) (D := 32768) (hx g hg) ⟨by omega, by omega⟩ ⟨h3, h4⟩ (by omega)
  have hb : ∀ g ∈ (spW1 v ts s x).2, Bd 1081344 g := by
    intro g hg
    unfold spW1 at hg
    rw [h1] at hg
    obtain ⟨y, hy, rfl⟩ := List.mem_map.1 hg
    exact (hstep y hy).2
  have hm : (spW1 v ts s x).2.map toO = (srW1 v ts s (tellO x)).2 := by
    unfold spW1 srW1 tellO
    simp only
    rw [h1, h2, List.map_map, List.map_map]
    exact List.map_congr_left fun g hg => (hstep g hg).1
  refine ⟨?_, hb⟩
  refine Prod.ext ?_ hm
  show (spW1 v ts s x).1 = (srW1 v ts s (tellO x)).1
  have e1 : (spW1 v ts s x).1 = sumW (spW1 v ts s x).2 := rfl
  have e2 : (srW1 v ts s (tellO x)).1 = sumI (srW1 v ts s (tellO x)).2 := rfl
  rw [e1, e2, ← hm]
  refine sum_bd _ 1081344 hb ?_
  have : (spW1 v ts s x).2.length = x.2.length := by unfold spW1; simp
  rw [this]
  have := Nat.mul_le_mul_left 1081344 hl
  omega
theorem spL_O {v : Bool} {s : Int} {st en : Bool} {x : Int × List GL} (hs : -32768 ≤ s ∧ s ≤ 32767) (hx : ∀ g ∈ x.2, Bd 1081344 g) (hl : x.2.length ≤ 36) (hsh : ∃ ms, Shp (x.2.map GL.gl) 0 ms) :
    tellO (spL1 v s st en x) = srL1 v s st en (tellO x) := by
  obtain ⟨h1, h2, h3, h4⟩ := half_in hs
  have hms := ms_len hsh
  rw [List.length_map] at hms
  have hbase := letL_O (C := 4000000) (D := 32768) (fun B g hc hg => hG_O (v := v) (d := s.tdiv 2) (D := 32768) hg ⟨h3, h4⟩ (by omega)) (fun B g hc hg => tG_O (v := v) (d := s.tdiv 2) (D := 32768) hg ⟨h3, h4⟩ (by omega)) st en x.2.length (msOf (x.2.map GL.gl)) 0 1081344 x.2 (by omega) hx
  have hm : (spL1 v s st en x).2.map toO = (srL1 v s st en (tellO x)).2 := by
    unfold spL1 srL1 spL0 srL0 tellO
    simp only
    rw [h1, h2, hbase.1, List.length_map, List.map_map]
    rfl
  have hb : ∀ g ∈ (spL1 v s st en x).2, Bd 4000000 g := by
    intro g hg
    unfold spL1 spL0 at hg
    simp only at hg
    rw [h1] at hg
    exact (hbase.2 g hg).mono (by omega)
  refine Prod.ext ?_ hm
  show (spL1 v s st en x).1 = (srL1 v s st en (tellO x)).1
  have e1 : (spL1 v s st en x).1 = sumW (spL1 v s st en x).2 := rfl
  have e2 : (srL1 v s st en (tellO x)).1 = sumI (srL1 v s st en (tellO x)).2 := rfl
  rw [e1, e2, ← hm]
  refine sum_bd _ 4000000 hb ?_
  have : (spL1 v s st en x).2.length = x.2.length := letL_len _ _ _ _ _ _ _ _
  rw [this]
  have := Nat.mul_le_mul_left 4000000 hl
  omega
theorem sp_same {v : Bool} {ts : List Int} {word letter : Int} {n k : Nat} {r : RV} (hg : GdV ts r) (hw : -32768 ≤ word ∧ word ≤ 32767) (hl : -32768 ≤ letter ∧ letter ≤ 32767) (hk : k < n) :
    tellO (spT v ts word letter n k (tellG v r)) = srT v ts word letter n k r.told := by
  have e0 : tellO (tellG v r) = r.told := by
    show (r.ad, (r.gs.map (ofO v)).map toO) = (r.ad, r.gs)
    rw [toO_ofO]
  have hb0 : ∀ g ∈ (tellG v r).2, Bd 1048576 g := by
    intro g hgm
    obtain ⟨o, ho, rfl⟩ := List.mem_map.1 hgm
    have := hg.ob o ho
    have h1 := this.ad; have h2 := this.xo; have h3 := this.yo
    unfold inn at h1 h2 h3
    exact ⟨by show -((1048576 : Nat) : Int) ≤ o.ad ∧ o.ad ≤ _; omega, by show -((1048576 : Nat) : Int) ≤ o.xo ∧ o.xo ≤ _; omega, by show -((1048576 : Nat) : Int) ≤ o.yo ∧ o.yo ≤ _; omega⟩
  have hl0 : (tellG v r).2.length ≤ 36 := by show (r.gs.map (ofO v)).length ≤ 36; rw [List.length_map]; exact hg.len
  have hs0 : ∃ ms, Shp ((tellG v r).2.map GL.gl) 0 ms := by
    show ∃ ms, Shp ((r.gs.map (ofO v)).map GL.gl) 0 ms
    rw [List.map_map]
    exact shp_of hg
  have hen : ((k : Int) == ((n - 1 : Nat) : Int)) = (((k + 1 : Nat) : Int) == (n : Int)) := by
    rw [Bool.eq_iff_iff]
    simp only [beq_iff_eq]
    omega
  have hW := spW_O (v := v) (ts := ts) hw hb0 hl0
  unfold spT srT
  rw [hen, ← e0]
  cases letter != 0 <;> cases word != 0
  · rfl
  · exact hW.1
  · exact spL_O hl (fun g hgm => (hb0 g hgm).mono (by omega)) hl0 hs0
  · show tellO (spL1 v letter _ _ (spW1 v ts word (tellG v r))) = srL1 v letter _ _ (srW1 v ts word (tellO (tellG v r)))
    rw [← hW.1]
    refine spL_O hl hW.2 ?_ ?_
    · have : (spW1 v ts word (tellG v r)).2.length = (tellG v r).2.length := by unfold spW1; simp
      omega
    · have : (spW1 v ts word (tellG v r)).2.map GL.gl = (tellG v r).2.map GL.gl := map_same (wG_gl _ _ _ _) _
      rw [this]; exact hs0
theorem spaced_same {v : Bool} {ts : List Int} {word letter : Int} (hw : -32768 ≤ word ∧ word ≤ 32767) (hl : -32768 ≤ letter ∧ letter ≤ 32767) (ins : List RV) (hg : ∀ r ∈ ins, GdV ts r) :
    (mapI (spT v ts word letter ins.length) 0 (ins.map (tellG v))).map tellO = mapI (srT v ts word letter ins.length) 0 (ins.map RV.told) := by
  suffices h : ∀ (l : List RV) (i n : Nat), i + l.length ≤ n → (∀ r ∈ l, GdV ts r) → (mapI (spT v ts word letter n) i (l.map (tellG v))).map tellO = mapI (srT v ts word letter n) i (l.map RV.told) from h ins 0 _ (by omega) hg
  intro l
  induction l with
  | nil => intro i n _ _; rfl
  | cons r l ih =>
    intro i n hn hgl
    rw [List.length_cons] at hn
    simp only [List.map_cons, mapI]
    rw [ih (i + 1) n (by omega) (fun x hx => hgl x (by simp [hx])), sp_same (hgl r (by simp)) hw hl (by omega)]
theorem gdV_of {nn : Nat} {ts : List Int} {us : List RV} {qs : List (List OG)} (hn : 1 ≤ nn) (ht : ts.length = nn) (hus : us.map RV.told = qs.map (fun l => (7, someL nn l))) : ∀ u ∈ us, GdV ts u := by
  intro u hu
  have h1 : u.told ∈ qs.map (fun l => ((7 : Int), someL nn l)) := by rw [← hus]; exact List.mem_map_of_mem hu
  obtain ⟨l, _, he⟩ := List.mem_map.1 h1
  have ha : u.ad = 7 := (congrArg Prod.fst he).symm
  have hgs : u.gs = someL nn l := (congrArg Prod.snd he).symm
  subst ht
  refine ⟨by rw [ha]; exact inG_small (by omega), by rw [hgs]; exact someL_len _ l, by rw [hgs]; exact someL_OB _ l, ?_, ?_⟩
  · rw [hgs]
    exact fun g hg => someL_pos _ (by omega) l g hg
  · rw [hgs]
    exact someL_cl _ l
theorem rd_two {w0 w : World} {S : List Nat} {H : Heap} {rs ins : List RV} {r : RV} (hw : Hp w0 S H w) (h1 : SubH (hpV rs) H) (h2 : SubH (hpV ins) H) (hi : ∀ x ∈ ins, x.Own) (hr : r ∈ rs) (ho : r.Own ∨ r.Alias ins) : r.gs.length ≤ r.cap ∧ RdO w r.A r.gs := by
  rcases ho with ho | ho
  · exact rd_own hw h1 hr ho
  · exact rd_alias hw h2 hi ho
end Go.Proofs.Ytbepljmeflndkaa
