/- Part 1 of the proof about FnCharstring. -/
import Derived.WalkKit
import Derived.WalkSpells
import Derived.WalkLawsBesides
import Derived.Orders
import Derived.Maps.AppendAt
namespace Go.Eng
open Go
abbrev Slots := List (Nat × Value)
abbrev Blk := Nat × List Value × TypeId
abbrev Heap := List Blk
def get : Slots → Nat → Option Value
  | [], _ => none
  | (k, v) :: r, t => bif Nat.beq t k then some v else get r t
def ev (L : Slots) : Operand → Option Value
  | .tmp t => get L t
  | .const v => some v
  | .global g => some (.pointer (some ⟨g, 0, none⟩))
  | .func f => some (.func (.func f) #[] #[])
structure Env (n : Nat) (D : List Deferred) (L : Slots) (a : Act) : Prop where
  size : a.tmps.size = n
  defers : a.defers = D
  get : ∀ t v, get L t = some v → a.tmps[t]? = some v
structure Hp (w0 : World) (S : List Nat) (H : Heap) (w : World) : Prop where
  os : w.os = w0.os
  tape : w.tape = w0.tape
  output : w.output = w0.output
  size : w0.heap.size ≤ w.heap.size
  old : ∀ k, k < w0.heap.size → k ∉ S → w.heap[k]? = w0.heap[k]?
  blk : ∀ g cs e, (g, cs, e) ∈ H → w.heap[g]? = some (.cells cs.toArray e (0, 0)) ∧ (g ∈ S ∨ w0.heap.size ≤ g)
  nd : H.Pairwise (fun x y => x.1 ≠ y.1)
section
variable {n : Nat} {D : List Deferred} {L : Slots} {a : Act}
theorem Env.ev_eq (h : Env n D L a) {x : Operand} {v : Value} (hx : ev L x = some v) : a.eval x = v := by
  cases x with
  | tmp t =>
    have := h.get t v hx
    simp [Act.eval, Array.getD_eq_getD_getElem?, this]
  | const u => simpa [ev, Act.eval] using hx
  | global g => simpa [ev, Act.eval] using hx
  | func f => simpa [ev, Act.eval] using hx
theorem Env.put (h : Env n D L a) {d : Nat} (hd : Nat.blt d n = true) (v : Value) : Env n D ((d, v) :: L) (a.put (some d) v) := by
  have hd' : d < n := Nat.le_of_ble_eq_true hd
  refine ⟨by simpa [Act.put] using h.size, by simpa [Act.put] using h.defers, fun t u hu => ?_⟩
  simp only [Eng.get] at hu
  by_cases e : t = d
  · subst e
    simp at hu
    subst hu
    have hs := h.size
    simp [Act.put, hs, hd']
  · have hb : Nat.beq t d = false := by
      cases hb : Nat.beq t d with
      | false => rfl
      | true => exact absurd (Nat.eq_of_beq_eq_true hb) e
    rw [hb] at hu
    simp only [cond_false] at hu
    have := h.get t u hu
    simp only [Act.put]
    rw [Array.getElem?_setIfInBounds_ne (Ne.symm e)]
    exact this
def Sub : Slots → Slots → Prop
  | [], _ => True
  | (t, v) :: r, L => get L t = some v ∧ Sub r L
theorem Sub.get {L' L : Slots} (h : Sub L' L) {t : Nat} {v : Value} (hv : Eng.get L' t = some v) : Eng.get L t = some v := by
  induction L' with
  | nil => simp [Eng.get] at hv
  | cons x r ih =>
    obtain ⟨k, u⟩ := x
    obtain ⟨h1, h2⟩ := h
    simp only [Eng.get] at hv
    cases hb : Nat.beq t k with
    | true =>
      rw [hb] at hv
      simp only [cond_true, Option.some.injEq] at hv
      have : t = k := Nat.eq_of_beq_eq_true hb
      subst this
      rw [h1, hv]
    | false => rw [hb] at hv; exact ih h2 hv
theorem Env.sub {L' : Slots} (h : Env n D L a) (hs : Sub L' L) : Env n D L' a :=
  ⟨h.size, h.defers, fun t v hv => h.get t v (hs.get hv)⟩
end
section heap
variable {w0 w : World} {S : List Nat} {H : Heap}
theorem Hp.lt (h : Hp w0 S H w) {g cs e} (hm : (g, cs, e) ∈ H) : g < w.heap.size := by
  have := (h.blk g cs e hm).1
  rcases Nat.lt_or_ge g w.heap.size with hl | hl
  · exact hl
  · rw [Array.getElem?_eq_none hl] at this; cases this
theorem Hp.cell (h : Hp w0 S H w) {g cs e} (hm : (g, cs, e) ∈ H) (i : Nat) : w.cell? ⟨g, i, none⟩ = cs[i]? := by
  have := (h.blk g cs e hm).1
  simp [World.cell?, this]
theorem Hp.alloc (h : Hp w0 S H w) (cs : List Value) (e : TypeId) : Hp w0 S ((w.heap.size, cs, e) :: H) (w.alloc (.cells cs.toArray e)) := by
  refine ⟨h.os, h.tape, h.output, by have := h.size; simp; omega, fun k hk hS => ?_, fun g cs' e' hm => ?_, ?_⟩
  · rw [RowKit.Below.heap_alloc w _ k (by have := h.size; omega)]; exact h.old k hk hS
  · rcases List.mem_cons.1 hm with he | hm
    · injection he with h1 h2; injection h2 with h2 h3
      subst h1; subst h2; subst h3
      exact ⟨heap_alloc_new w _, .inr h.size⟩
    · have := h.blk g cs' e' hm
      exact ⟨by rw [RowKit.Below.heap_alloc w _ g (h.lt hm)]; exact this.1, this.2⟩
  · refine List.pairwise_cons.2 ⟨fun x hx => ?_, h.nd⟩
    obtain ⟨g, cs', e'⟩ := x
    have := h.lt hx
    simp; omega
/-- A block that is known may be forgotten; known blocks may be told in another order. -/
def Rem : Heap → Blk → Heap → Prop
  | [], _, _ => False
  | x :: H, b, H' => (x = b ∧ H' = H) ∨ ∃ H1, H' = x :: H1 ∧ Rem H b H1
theorem Rem.here {b : Blk} {H : Heap} : Rem (b :: H) b H := .inl ⟨rfl, rfl⟩
theorem Rem.there {x b : Blk} {H H' : Heap} (h : Rem H b H') : Rem (x :: H) b (x :: H') := .inr ⟨H', rfl, h⟩
def SubH : Heap → Heap → Prop
  | [], _ => True
  | b :: H', H => ∃ H1, Rem H b H1 ∧ SubH H' H1
theorem SubH.nil {H : Heap} : SubH [] H := trivial
theorem SubH.cons {b : Blk} {H1 H' H : Heap} (h : Rem H b H1) (h' : SubH H' H1) : SubH (b :: H') H := ⟨H1, h, h'⟩
theorem Rem.perm : ∀ {H : Heap} {b : Blk} {H' : Heap}, Rem H b H' → H.Perm (b :: H') := by
  intro H
  induction H with
  | nil => intro b H' h; exact h.elim
  | cons x H ih =>
    intro b H' h
    rcases h with ⟨rfl, rfl⟩ | ⟨H1, rfl, h⟩
    · exact .refl _
    · exact (List.Perm.cons _ (ih h)).trans (List.Perm.swap _ _ _)
theorem Hp.perm {H' : Heap} (h : Hp w0 S H w) (hp : H.Perm H') : Hp w0 S H' w :=
  ⟨h.os, h.tape, h.output, h.size, h.old, fun g cs e hm => h.blk g cs e (hp.mem_iff.2 hm), (hp.pairwise_iff (fun hxy => Ne.symm hxy)).1 h.nd⟩
theorem SubH.exists : ∀ {H' H : Heap}, SubH H' H → ∃ R, H.Perm (H' ++ R) := by
  intro H'
  induction H' with
  | nil => intro H _; exact ⟨H, .refl _⟩
  | cons b H' ih =>
    intro H h
    obtain ⟨H1, hr, h2⟩ := h
    obtain ⟨R, hR⟩ := ih h2
    exact ⟨R, hr.perm.trans (List.Perm.cons _ hR)⟩
theorem Hp.appendL {H' R : Heap} (h : Hp w0 S (H' ++ R) w) : Hp w0 S H' w :=
  ⟨h.os, h.tape, h.output, h.size, h.old, fun g cs e hm => h.blk g cs e (List.mem_append.2 (.inl hm)), (List.pairwise_append.1 h.nd).1⟩
theorem Hp.sub {H' : Heap} (h : Hp w0 S H w) (hs : SubH H' H) : Hp w0 S H' w := by
  obtain ⟨R, hR⟩ := hs.exists
  exact (h.perm hR).appendL
theorem Hp.drew (h : Hp w0 S H w) : Hp w0 S H { w with drawn := w.drawn + 1 } := ⟨h.os, h.tape, h.output, h.size, h.old, h.blk, h.nd⟩
/-- One block's cells are other ones. -/
def Upd : Heap → Nat → List Value → TypeId → List Value → Heap → Prop
  | [], _, _, _, _, _ => False
  | x :: H, g, cs, e, cs', H' => (x = (g, cs, e) ∧ H' = (g, cs', e) :: H) ∨ ∃ H1, H' = x :: H1 ∧ Upd H g cs e cs' H1
theorem Upd.here {g : Nat} {cs : List Value} {e : TypeId} {cs' : List Value} {H : Heap} : Upd ((g, cs, e) :: H) g cs e cs' ((g, cs', e) :: H) := .inl ⟨rfl, rfl⟩
theorem Upd.there {x : Blk} {g : Nat} {cs : List Value} {e : TypeId} {cs' : List Value} {H H' : Heap} (h : Upd H g cs e cs' H') : Upd (x :: H) g cs e cs' (x :: H') := .inr ⟨H', rfl, h⟩
theorem Upd.mem {g : Nat} {cs : List Value} {e : TypeId} {cs' : List Value} : ∀ {H H' : Heap}, Upd H g cs e cs' H' → (g, cs, e) ∈ H := by
  intro H
  induction H with
  | nil => intro H' h; exact h.elim
  | cons x H ih =>
    intro H' h
    rcases h with ⟨rfl, _⟩ | ⟨H1, _, h⟩
    · exact .head _
    · exact .tail _ (ih h)
theorem Upd.ids {g : Nat} {cs : List Value} {e : TypeId} {cs' : List Value} : ∀ {H H' : Heap}, Upd H g cs e cs' H' → H'.map (·.1) = H.map (·.1) := by
  intro H
  induction H with
  | nil => intro H' h; exact h.elim
  | cons x H ih =>
    intro H' h
    rcases h with ⟨rfl, rfl⟩ | ⟨H1, rfl, h⟩
    · rfl
    · simp [ih h]
theorem Upd.back {g : Nat} {cs : List Value} {e : TypeId} {cs' : List Value} : ∀ {H H' : Heap}, Upd H g cs e cs' H' → H.Pairwise (fun x y => x.1 ≠ y.1) → ∀ {x : Blk}, x ∈ H' → x = (g, cs', e) ∨ (x ∈ H ∧ x.1 ≠ g) := by
  intro H
  induction H with
  | nil => intro H' h; exact h.elim
  | cons y H ih =>
    intro H' h hnd x hx
    rcases h with ⟨rfl, rfl⟩ | ⟨H1, rfl, h⟩
    · rcases List.mem_cons.1 hx with hx | hx
      · exact .inl hx
      · exact .inr ⟨.tail _ hx, fun he => (List.pairwise_cons.1 hnd).1 x hx he.symm⟩
    · rcases List.mem_cons.1 hx with hx | hx
      · subst hx
        exact .inr ⟨.head _, (List.pairwise_cons.1 hnd).1 _ h.mem⟩
      · rcases ih h (List.pairwise_cons.1 hnd).2 hx with hx | hx
        · exact .inl hx
        · exact .inr ⟨.tail _ hx.1, hx.2⟩
theorem Hp.upd {H' : Heap} {g cs e cs'} {w' : World} (h : Hp w0 S H w) (hu : Upd H g cs e cs' H') (ho : w'.os = w.os) (ht : w'.tape = w.tape) (hout : w'.output = w.output)
    (hs : w'.heap.size = w.heap.size) (hoth : ∀ k, k ≠ g → w'.heap[k]? = w.heap[k]?) (hg : w'.heap[g]? = some (.cells cs'.toArray e (0, 0))) : Hp w0 S H' w' := by
  have hb := h.blk g cs e hu.mem
  refine ⟨ho.trans h.os, ht.trans h.tape, hout.trans h.output, by rw [hs]; exact h.size, fun k hk hkS => ?_, fun g' c' e' hm => ?_, ?_⟩
  · rw [hoth k (fun he => ?_)]; exact h.old k hk hkS
    subst he
    rcases hb.2 with h1 | h1
    · exact hkS h1
    · omega
  · rcases hu.back h.nd hm with he | ⟨hm', hne⟩
    · injection he with h1 h2; injection h2 with h2 h3
      subst h1; subst h2; subst h3
      exact ⟨hg, hb.2⟩
    · have := h.blk g' c' e' hm'
      exact ⟨by rw [hoth g' hne]; exact this.1, this.2⟩
  · have h1 : (H.map (fun x : Blk => x.1)).Pairwise (· ≠ ·) := List.pairwise_map.2 h.nd
    have h2 : (H'.map (fun x : Blk => x.1)).Pairwise (· ≠ ·) := by rw [hu.ids]; exact h1
    exact List.pairwise_map.1 h2
end heap
/- THE GOALS: a list of operations, a piece of code, a way out, each in a frame and a memory of which so much is known. -/
section goals
variable (P : Program) (Q : Exit → Act → World → Prop) (n : Nat) (D : List Deferred) (w0 : World) (S : List Nat)
def Wl (ops : Array Oper) (l : List Oper) (L : Slots) (H : Heap) : Prop := ∀ a w, Env n D L a → Hp w0 S H w → wpList P ops Q l a w
def Wc (c : Code) (L : Slots) (H : Heap) : Prop := ∀ a w, Env n D L a → Hp w0 S H w → c.wp P Q a w
def Wq (e : Exit) (L : Slots) (H : Heap) : Prop := ∀ a w, Env n D L a → Hp w0 S H w → Q e a w
end goals
section code
variable {P : Program} {Q : Exit → Act → World → Prop} {n : Nat} {D : List Deferred} {w0 : World} {S : List Nat} {L : Slots} {H : Heap}
theorem c_seq {x y : Code} (h : Wc P (Exit.then (y.wp P Q) Q) n D w0 S x L H) : Wc P Q n D w0 S (.seq x y) L H :=
  fun a w ha hw => wp_seq (h a w ha hw)
theorem q_then {y : Code} {Q' : Exit → Act → World → Prop} (h : Wc P Q n D w0 S y L H) : Wq (Exit.then (y.wp P Q) Q') n D w0 S .normal L H := h
theorem q_then_exit {K : Act → World → Prop} {id : Nat} (h : Wq Q n D w0 S (.exit id) L H) : Wq (Exit.then K Q) n D w0 S (.exit id) L H := h
theorem q_then_ret {K : Act → World → Prop} (h : Wq Q n D w0 S .ret L H) : Wq (Exit.then K Q) n D w0 S .ret L H := h
theorem q_block {id : Nat} (h : Wq Q n D w0 S .normal L H) : Wq (Exit.inBlock id Q) n D w0 S .normal L H := h
theorem q_block_ret {id : Nat} (h : Wq Q n D w0 S .ret L H) : Wq (Exit.inBlock id Q) n D w0 S .ret L H := h
theorem q_block_exit {id : Nat} (h : Wq Q n D w0 S .normal L H) : Wq (Exit.inBlock id Q) n D w0 S (.exit id) L H := by
  intro a w ha hw
  simp only [Exit.inBlock, if_true]
  exact h a w ha hw
theorem c_block {id : Nat} {c : Code} (h : Wc P (Exit.inBlock id Q) n D w0 S c L H) : Wc P Q n D w0 S (.block id c) L H := fun a w ha hw => wp_block (h a w ha hw)
theorem c_skip (h : Wq Q n D w0 S .normal L H) : Wc P Q n D w0 S .skip L H := fun a w ha hw => wp_skip (h a w ha hw)
theorem c_exit {id : Nat} (h : Wq Q n D w0 S (.exit id) L H) : Wc P Q n D w0 S (.exit id) L H := fun a w ha hw => wp_exit (h a w ha hw)
theorem c_ret (h : Wq Q n D w0 S .ret L H) : Wc P Q n D w0 S .ret L H := fun a w ha hw => wp_ret (h a w ha hw)
theorem c_cond {c : Operand} {x y : Code} {b : Bool} (hc : ev L c = some (.bool b)) (ht : b = true → Wc P Q n D w0 S x L H) (hf : b = false → Wc P Q n D w0 S y L H) : Wc P Q n D w0 S (.cond c x y) L H :=
  fun a w ha hw => wp_cond_split (ha.ev_eq hc) (fun e => ht e a w ha hw) (fun e => hf e a w ha hw)
theorem c_true {c : Operand} {x y : Code} {b : Bool} (hc : ev L c = some (.bool b)) (hb : b = true) (h : Wc P Q n D w0 S x L H) : Wc P Q n D w0 S (.cond c x y) L H :=
  c_cond hc (fun _ => h) (fun e => by rw [hb] at e; cases e)
theorem c_false {c : Operand} {x y : Code} {b : Bool} (hc : ev L c = some (.bool b)) (hb : b = false) (h : Wc P Q n D w0 S y L H) : Wc P Q n D w0 S (.cond c x y) L H :=
  c_cond hc (fun e => by rw [hb] at e; cases e) (fun _ => h)
theorem c_region {id : Nat} {l : List Oper} (h : Wl P Q n D w0 S l.toArray l L H) : Wc P Q n D w0 S (.region id l.toArray false) L H :=
  fun a w ha hw => wp_region_lit (h a w ha hw)
theorem l_nil {ops : Array Oper} (h : Wq Q n D w0 S .normal L H) : Wl P Q n D w0 S ops [] L H := h
/-- The state that a cut names: one of a family. -/
def St {ι : Type} (n : Nat) (D : List Deferred) (w0 : World) (S : List Nat) (φ : ι → Prop) (L : ι → Slots) (H : ι → Heap) (a : Act) (w : World) : Prop :=
  ∃ x, φ x ∧ Env n D (L x) a ∧ Hp w0 S (H x) w
/-- A post that is a state behind the normal way out, and the old one for every other. -/
def Cut {ι : Type} (Q : Exit → Act → World → Prop) (n : Nat) (D : List Deferred) (w0 : World) (S : List Nat) (φ : ι → Prop) (L : ι → Slots) (H : ι → Heap) : Exit → Act → World → Prop :=
  Exit.then (St n D w0 S φ L H) Q
theorem c_cut {ι : Type} {c : Code} {φ : ι → Prop} {L' : ι → Slots} {H' : ι → Heap} (h : Wc P (Cut Q n D w0 S φ L' H') n D w0 S c L H) (hq : ∀ x, φ x → Wq Q n D w0 S .normal (L' x) (H' x)) : Wc P Q n D w0 S c L H := by
  intro a w ha hw
  refine Code.wp_mono (fun e a w q => ?_) (h a w ha hw)
  cases e <;> first | exact q | (obtain ⟨x, hx, h1, h2⟩ := q; exact hq x hx a w h1 h2)
theorem q_cut {ι : Type} {φ : ι → Prop} {L' : ι → Slots} {H' : ι → Heap} (x : ι) (hφ : φ x) (hL : Sub (L' x) L) (hH : SubH (H' x) H) : Wq (Cut Q n D w0 S φ L' H') n D w0 S .normal L H :=
  fun _ _ ha hw => ⟨x, hφ, ha.sub hL, hw.sub hH⟩
/-- A LOOP: the states at its head are a family; each round lowers the measure. -/
def Rnd {ι : Type} (Q : Exit → Act → World → Prop) (n : Nat) (D : List Deferred) (w0 : World) (S : List Nat) (φ : ι → Prop) (L : ι → Slots) (H : ι → Heap) (μ : ι → Nat) (m : Nat) : Exit → Act → World → Prop :=
  Exit.then (fun a w => ∃ x, φ x ∧ μ x < m ∧ Env n D (L x) a ∧ Hp w0 S (H x) w) Q
theorem q_rnd {ι : Type} {φ : ι → Prop} {L' : ι → Slots} {H' : ι → Heap} {μ : ι → Nat} {m : Nat} (x : ι) (hφ : φ x) (hμ : μ x < m) (hL : Sub (L' x) L) (hH : SubH (H' x) H) : Wq (Rnd Q n D w0 S φ L' H' μ m) n D w0 S .normal L H :=
  fun _ _ ha hw => ⟨x, hφ, hμ, ha.sub hL, hw.sub hH⟩
theorem q_rnd_exit {ι : Type} {φ : ι → Prop} {L' : ι → Slots} {H' : ι → Heap} {μ : ι → Nat} {m : Nat} {id : Nat} (h : Wq Q n D w0 S (.exit id) L H) : Wq (Rnd Q n D w0 S φ L' H' μ m) n D w0 S (.exit id) L H := h
theorem q_rnd_ret {ι : Type} {φ : ι → Prop} {L' : ι → Slots} {H' : ι → Heap} {μ : ι → Nat} {m : Nat} (h : Wq Q n D w0 S .ret L H) : Wq (Rnd Q n D w0 S φ L' H' μ m) n D w0 S .ret L H := h
theorem loop_wf {c : Code} (I : Nat → Act → World → Prop) {a : Act} {w : World} (m0 : Nat) (h0 : I m0 a w)
    (round : ∀ m a w, I m a w → c.wp P (Exit.then (fun a' w' => ∃ m', m' < m ∧ I m' a' w') Q) a w) : (Code.loop c).wp P Q a w := by
  intro b k cs
  have key : ∀ m a w, I m a w → ∃ e a' w', Q e a' w' ∧ Arrives P (lone (b.at a (.code c :: .inLoop c :: k)) cs w) b k cs e a' w' := by
    intro m
    induction m using Nat.strongRecOn with
    | _ m ih =>
      intro a w hI
      obtain ⟨e, a₁, w₁, hq, harr⟩ := round m a w hI b (.inLoop c :: k) cs
      cases e with
      | normal =>
        obtain ⟨m', hlt, hI'⟩ := hq
        obtain ⟨e₂, a₂, w₂, hq₂, harr₂⟩ := ih m' hlt a₁ w₁ hI'
        exact ⟨e₂, a₂, w₂, hq₂, .of_steps (Steps.trans harr (.one step_inLoop)) harr₂⟩
      | exit id => exact ⟨_, a₁, w₁, hq, .pass (x := .inLoop c) rfl (fun _ _ => .inl (by simp)) harr⟩
      | goto l => exact ⟨_, a₁, w₁, hq, .pass (x := .inLoop c) rfl (fun _ _ => .inl (by simp)) harr⟩
      | ret => exact ⟨_, a₁, w₁, hq, .pass (x := .inLoop c) rfl (fun _ _ => .inl (by simp)) harr⟩
      | panic ch => exact ⟨_, a₁, w₁, hq, .pass (x := .inLoop c) rfl (fun _ _ => .inl (by simp)) harr⟩
      | outgrown => exact ⟨_, a₁, w₁, hq, .pass (x := .inLoop c) rfl (fun _ _ => .inl (by simp)) harr⟩
  obtain ⟨e, a', w', hq, harr⟩ := key m0 a w h0
  exact ⟨e, a', w', hq, .of_steps (.one step_loop) harr⟩
theorem c_loop {ι : Type} {c : Code} {φ : ι → Prop} {L' : ι → Slots} {H' : ι → Heap} (μ : ι → Nat) (x0 : ι) (h0 : φ x0) (hL : Sub (L' x0) L) (hH : SubH (H' x0) H)
    (round : ∀ x, φ x → Wc P (Rnd Q n D w0 S φ L' H' μ (μ x)) n D w0 S c (L' x) (H' x)) : Wc P Q n D w0 S (.loop c) L H := by
  intro a w ha hw
  refine loop_wf (fun m a w => ∃ x, φ x ∧ μ x = m ∧ Env n D (L' x) a ∧ Hp w0 S (H' x) w) (μ x0) ⟨x0, h0, rfl, ha.sub hL, hw.sub hH⟩ ?_
  rintro m a w ⟨x, hx, rfl, h1, h2⟩
  refine Code.wp_mono (fun e a w q => ?_) (round x hx a w h1 h2)
  cases e <;> first | exact q | (obtain ⟨y, hy, hlt, h3, h4⟩ := q; exact ⟨_, hlt, y, hy, rfl, h3, h4⟩)
end code
/- THE OPERATIONS -/
section ops
variable {P : Program} {Q : Exit → Act → World → Prop} {n : Nat} {D : List Deferred} {w0 : World} {S : List Nat} {L : Slots} {H : Heap} {ops : Array Oper} {rest : List Oper}
/-- What an operation is to the walk: from a state it yields a value, and a state of a family. -/
def Gives (P : Program) (n : Nat) (D : List Deferred) (w0 : World) (S : List Nat) (o : Oper) (L : Slots) (H : Heap) {ι : Type} (φ : ι → Prop) (v : ι → Value) (H' : ι → Heap) : Prop :=
  ∀ a w, Env n D L a → Hp w0 S H w → ∃ x w', φ x ∧ ((execOp a.eval o).run P w = .ok (.value (v x)) w' ∨ ((execOp a.eval o).run P w = .ok .skip w' ∧ v x = undef)) ∧ Hp w0 S (H' x) w'
theorem l_gives {o : Oper} {d : Nat} (hd : o.dst = some d) (hg : o.guard = none) {ι : Type} {φ : ι → Prop} {v : ι → Value} {H' : ι → Heap} (hr : Gives P n D w0 S o L H φ v H') (hn : Nat.blt d n = true)
    (h : ∀ x, φ x → Wl P Q n D w0 S ops rest ((d, v x) :: L) (H' x)) : Wl P Q n D w0 S ops (o :: rest) L H := by
  intro a w ha hw
  refine wpList_plain hg fun K hK => ?_
  obtain ⟨x, w', hφ, hrun, hH⟩ := hr a w ha hw
  unfold Oper.wp
  rcases hrun with hrun | ⟨hrun, hv⟩
  · rw [hrun, Oper.upon_value, hd]
    exact hK _ _ (h x hφ _ _ (ha.put hn _) hH)
  · rw [hrun, Oper.upon_skip, hd, ← hv]
    exact hK _ _ (h x hφ _ _ (ha.put hn _) hH)
theorem l_does {o : Oper} (hd : o.dst = none) (hg : o.guard = none) {ι : Type} {φ : ι → Prop} {v : ι → Value} {H' : ι → Heap} (hr : Gives P n D w0 S o L H φ v H')
    (h : ∀ x, φ x → Wl P Q n D w0 S ops rest L (H' x)) : Wl P Q n D w0 S ops (o :: rest) L H := by
  intro a w ha hw
  refine wpList_plain hg fun K hK => ?_
  obtain ⟨x, w', hφ, hrun, hH⟩ := hr a w ha hw
  unfold Oper.wp
  rcases hrun with hrun | ⟨hrun, hv⟩
  · rw [hrun, Oper.upon_value, hd]
    exact hK _ _ (h x hφ _ _ ha hH)
  · rw [hrun, Oper.upon_skip, hd]
    exact hK _ _ (h x hφ _ _ ha hH)
/-- The common case: one value, the memory as it is. -/
def Yields (P : Program) (n : Nat) (D : List Deferred) (w0 : World) (S : List Nat) (o : Oper) (L : Slots) (H : Heap) (v : Value) : Prop :=
  ∀ a w, Env n D L a → Hp w0 S H w → (execOp a.eval o).run P w = .ok (.value v) w
theorem l_val {o : Oper} {d : Nat} {v : Value} (hr : Yields P n D w0 S o L H v) (hd : o.dst = some d) (hg : o.guard = none) (hn : Nat.blt d n = true)
    (h : Wl P Q n D w0 S ops rest ((d, v) :: L) H) : Wl P Q n D w0 S ops (o :: rest) L H := by
  intro a w ha hw
  refine wpList_plain hg fun K hK => ?_
  unfold Oper.wp
  rw [hr a w ha hw, Oper.upon_value, hd]
  exact hK _ _ (h _ _ (ha.put hn _) hw)
/-- A guarded operation that is wanted, and one that isn't. -/
theorem l_want {d : Option Tmp} {op : Op} {ty : TypeId} {pos : String} {af : Array Edge} {j : Nat} {want : Bool} {t : Nat} (hj : (ops[j]?).bind (·.dst) = some t) (hb : get L t = some (.bool want))
    (h : Wl P Q n D w0 S ops (⟨d, op, ty, pos, af, none⟩ :: rest) L H) : Wl P Q n D w0 S ops (⟨d, op, ty, pos, af, some (j, want)⟩ :: rest) L H := by
  intro a w ha hw
  have h1 := h a w ha hw
  unfold wpList at h1 ⊢
  have hy : yielded ops a.tmps j = some want := by
    unfold yielded
    rw [hj]
    simp [ha.get t _ hb]
  rw [if_pos (by simp [Region.wanted])] at h1
  rw [if_pos (by simp [Region.wanted, hy])]
  exact h1
theorem l_not {d : Nat} {op : Op} {ty : TypeId} {pos : String} {af : Array Edge} {j : Nat} {want b : Bool} {t : Nat} (hj : (ops[j]?).bind (·.dst) = some t) (hb : get L t = some (.bool b)) (hne : b = !want) (hn : Nat.blt d n = true)
    (h : Wl P Q n D w0 S ops rest ((d, undef) :: L) H) : Wl P Q n D w0 S ops (⟨some d, op, ty, pos, af, some (j, want)⟩ :: rest) L H := by
  intro a w ha hw
  have hy : yielded ops a.tmps j = some b := by
    unfold yielded
    rw [hj]
    simp [ha.get t _ hb]
  unfold wpList
  rw [if_neg (by simp [Region.wanted, hy, hne])]
  exact h _ _ (ha.put hn _) hw
theorem l_split {l : List Oper} {t : Nat} {b : Bool} (hb : get L t = some (.bool b)) (hn : Nat.blt t n = true) (ht : b = true → Wl P Q n D w0 S ops l ((t, .bool true) :: L) H) (hf : b = false → Wl P Q n D w0 S ops l ((t, .bool false) :: L) H) : Wl P Q n D w0 S ops l L H := by
  intro a w ha hw
  have key : ∀ c, b = c → Env n D ((t, .bool c) :: L) a := by
    intro c hc
    refine ⟨ha.size, ha.defers, fun u v hu => ?_⟩
    simp only [Eng.get] at hu
    cases hq : Nat.beq u t with
    | true =>
      rw [hq] at hu
      simp only [cond_true, Option.some.injEq] at hu
      have : u = t := Nat.eq_of_beq_eq_true hq
      subst this; subst hu; subst hc
      exact ha.get _ _ hb
    | false => rw [hq] at hu; exact ha.get u v hu
  cases hbb : b with
  | true => exact ht hbb a w (key _ hbb) hw
  | false => exact hf hbb a w (key _ hbb) hw
end ops
/- WHAT EACH OPERATION YIELDS -/
section vals
variable {P : Program} {n : Nat} {D : List Deferred} {w0 : World} {S : List Nat} {L : Slots} {H : Heap}
variable {d : Option Tmp} {ty : TypeId} {pos : String} {af : Array Edge} {gd : Option (Nat × Bool)}
theorem y_move {x : Operand} {v : Value} (hx : ev L x = some v) : Yields P n D w0 S ⟨d, .move x, ty, pos, af, gd⟩ L H v := by
  intro a w ha hw
  simp [execOp, ha.ev_eq hx]
theorem y_assign {x : Operand} {v : Value} (hx : ev L x = some v) : Yields P n D w0 S ⟨d, .assign x, ty, pos, af, gd⟩ L H v := by
  intro a w ha hw
  simp [execOp, ha.ev_eq hx]
theorem y_pick {c x y : Operand} {b : Bool} {u v : Value} (hc : ev L c = some (.bool b)) (hx : ev L x = some u) (hy : ev L y = some v) : Yields P n D w0 S ⟨d, .pick c x y, ty, pos, af, gd⟩ L H (bif b then u else v) := by
  intro a w ha hw
  cases b <;> simp [execOp, ha.ev_eq hc, ha.ev_eq hx, ha.ev_eq hy, asBool]
theorem y_nilCheck {x : Operand} {p : Addr} (hx : ev L x = some (.pointer (some p))) : Yields P n D w0 S ⟨d, .nilCheck x, ty, pos, af, gd⟩ L H (.pointer (some p)) := by
  intro a w ha hw
  simp [execOp, ha.ev_eq hx]
/-- Operators on whole numbers. -/
def binV (op : BinOp) (k : IntKind) (x y : Int) : Option Value :=
  match op with
  | .add => some (.int k (k.wrap (x + y)))
  | .sub => some (.int k (k.wrap (x - y)))
  | .mul => some (.int k (k.wrap (x * y)))
  | .eql => some (.bool (x == y))
  | .neq => some (.bool (x != y))
  | .lss => some (.bool (decide (x < y)))
  | .leq => some (.bool (decide (x ≤ y)))
  | .gtr => some (.bool (decide (x > y)))
  | .geq => some (.bool (decide (x ≥ y)))
  | .and => some (.int k (k.wrap (BitVec.ofInt k.bits x &&& BitVec.ofInt k.bits y).toNat))
  | _ => none
theorem y_bin {op : BinOp} {t u : TypeId} {x y : Operand} {k : IntKind} {i j : Int} {v v' : Value} (hx : ev L x = some (.int k i)) (hy : ev L y = some (.int k j)) (hv : binV op k i j = some v) (hv' : v = v') :
    Yields P n D w0 S ⟨d, .binOp op t x y u, ty, pos, af, gd⟩ L H v' := by
  intro a w ha hw
  subst hv'
  cases op <;> simp only [binV, Option.some.injEq, reduceCtorEq] at hv <;> subst hv <;> simp [execOp, ha.ev_eq hx, ha.ev_eq hy, eqGuard_at_int, binOp, Op.intArith, Op.intCmp, Op.intBits]
theorem y_quo {t u : TypeId} {x y : Operand} {k : IntKind} {i j : Int} {v' : Value} (hx : ev L x = some (.int k i)) (hy : ev L y = some (.int k j)) (hj : j ≠ 0) (hv' : Value.int k (k.wrap (i.tdiv j)) = v') :
    Yields P n D w0 S ⟨d, .binOp .quo t x y u, ty, pos, af, gd⟩ L H v' := by
  intro a w ha hw
  subst hv'
  simp [execOp, ha.ev_eq hx, ha.ev_eq hy, eqGuard_at_int, binOp, Op.intDiv, hj]
theorem y_rem {t u : TypeId} {x y : Operand} {k : IntKind} {i j : Int} {v' : Value} (hx : ev L x = some (.int k i)) (hy : ev L y = some (.int k j)) (hj : j ≠ 0) (hv' : Value.int k (i.tmod j) = v') :
    Yields P n D w0 S ⟨d, .binOp .rem t x y u, ty, pos, af, gd⟩ L H v' := by
  intro a w ha hw
  subst hv'
  simp [execOp, ha.ev_eq hx, ha.ev_eq hy, eqGuard_at_int, binOp, Op.intDiv, hj]
theorem y_not {t : TypeId} {x : Operand} {b : Bool} (hx : ev L x = some (.bool b)) : Yields P n D w0 S ⟨d, .unOp .not t x, ty, pos, af, gd⟩ L H (.bool (!b)) := by
  intro a w ha hw
  simp [execOp, ha.ev_eq hx, Op.unary]
/-- A conversion between kinds of whole numbers. -/
def cvK (P : Program) (s t : TypeId) : Option IntKind :=
  match P.underlying s with
  | some _ => match P.underlying t with
    | some (.int k) => some k
    | _ => none
  | none => none
theorem y_conv {s t : TypeId} {x : Operand} {k k' : IntKind} {i : Int} {v' : Value} (hk : cvK P s t = some k') (hx : ev L x = some (.int k i)) (hv' : Value.int k' (k'.wrap i) = v') :
    Yields P n D w0 S ⟨d, .convert s t x, ty, pos, af, gd⟩ L H v' := by
  intro a w ha hw
  subst hv'
  unfold cvK at hk
  split at hk
  · rename_i u hu
    split at hk
    · rename_i k2 hk2
      injection hk with hk
      subst hk
      have hr : (convert s t (.int k i)).run P w = .ok (.int k2 (k2.wrap i)) w := by
        cases u <;> simp [convert, run_underlying hu, run_underlying hk2, Conv.intToInt]
      simp [execOp, ha.ev_eq hx, hr]
    · cases hk
  · cases hk
/-- Where a field lies. -/
def fOff (P : Program) (s f : Nat) : Option Nat :=
  match P.underlying s with
  | some (.struct fs) => match fs[f]? with
    | some x => match P.info? x.type with
      | some i => if i.size = 0 then none else some x.offset
      | none => none
    | none => none
  | _ => none
theorem run_fieldAt' {s f off : Nat} (h : fOff P s f = some off) (a : Addr) (w : World) : (Instr.fieldAt s (.pointer (some a)) f).run P w = .ok (.pointer (some (a.add off))) w := by
  unfold fOff at h
  split at h
  · rename_i fs hu
    split at h
    · rename_i x hx
      split at h
      · rename_i i hi
        split at h
        · cases h
        · rename_i hne
          injection h with h
          subst h
          simp [Instr.fieldAt, run_underlying hu, hx, Instr.sureAddr, fieldPlace, sizeOf, typeInfo, hi, hne]
      · cases h
    · cases h
  · cases h
theorem y_fieldAddr {s f off : Nat} {x : Operand} {g o : Nat} (hf : fOff P s f = some off) (hx : ev L x = some (.pointer (some ⟨g, o, none⟩))) :
    Yields P n D w0 S ⟨d, .fieldAddr s x f, ty, pos, af, gd⟩ L H (.pointer (some ⟨g, o + off, none⟩)) := by
  intro a w ha hw
  simp [execOp, ha.ev_eq hx, run_fieldAt' hf, Addr.add_lit]
theorem add_add (a : Addr) (i j : Nat) : (a.add i).add j = a.add (i + j) := by
  unfold Addr.add
  by_cases hi : i = 0 <;> by_cases hj : j = 0 <;> simp [hi, hj, Nat.add_assoc]
/-- How a type is loaded: 'none' in it: one cell; a number: so many cells, as one value. -/
def ldSize (P : Program) (t : TypeId) : Option (Option Nat) :=
  match P.underlying t with
  | some (.struct _) => (P.info? t).map (fun i => some i.size)
  | some (.array _ _) => (P.info? t).map (fun i => some i.size)
  | some _ => some none
  | none => none
theorem run_loadAt1 {t : TypeId} (h : ldSize P t = some none) {a : Addr} {v : Value} {w : World} (hc : w.cell? a = some v) : (Instr.loadAt t (.pointer (some a))).run P w = .ok v w := by
  unfold ldSize at h
  split at h
  · simp at h
  · simp at h
  · rename_i u h1 h2 hu
    have hagg : (isAgg t).run P w = .ok false w := by
      cases u <;> first
        | exact (h1 _ rfl).elim
        | exact (h2 _ _ rfl).elim
        | simp [isAgg, run_underlying hu]
    simp [Instr.loadAt, Instr.sureAddr, loadVar, hagg, run_load, hc]
  · cases h
theorem run_loadAtN {t : TypeId} {k : Nat} (h : ldSize P t = some (some k)) {a : Addr} {cs : List Value} {w : World} (hl : cs.length = k) (hc : ∀ j v, cs[j]? = some v → w.cell? (a.add j) = some v) :
    (Instr.loadAt t (.pointer (some a))).run P w = .ok (.agg cs.toArray) w := by
  have hcells := run_loadCells_list (P := P) (w := w) a cs hc
  have fin : (isAgg t).run P w = .ok true w → (P.info? t).map (fun i => some i.size) = some (some k) → (Instr.loadAt t (.pointer (some a))).run P w = .ok (.agg cs.toArray) w := by
    intro hagg hi
    cases hinf : P.info? t with
    | none => rw [hinf] at hi; cases hi
    | some i =>
      rw [hinf] at hi
      simp at hi
      subst hi
      simp [Instr.loadAt, Instr.sureAddr, loadVar, hagg, sizeOf, typeInfo, hinf, ← hl, hcells]
  unfold ldSize at h
  split at h
  · rename_i fs hu
    exact fin (by simp [isAgg, run_underlying hu]) h
  · rename_i m e hu
    exact fin (by simp [isAgg, run_underlying hu]) h
  · cases h
  · cases h
/-- A load out of a block that is known. -/
theorem y_load1 {t : TypeId} {x : Operand} {g o : Nat} {cs : List Value} {e : TypeId} {v : Value} (hs : ldSize P t = some none) (hx : ev L x = some (.pointer (some ⟨g, o, none⟩))) (hm : (g, cs, e) ∈ H) (hv : cs[o]? = some v) :
    Yields P n D w0 S ⟨d, .load t x, ty, pos, af, gd⟩ L H v := by
  intro a w ha hw
  simp [execOp, ha.ev_eq hx, run_loadAt1 hs ((hw.cell hm o).trans hv)]
theorem y_loadN {t : TypeId} {x : Operand} {k : Nat} {g o : Nat} {cs : List Value} {e : TypeId} {vs : List Value} (hs : ldSize P t = some (some k)) (hx : ev L x = some (.pointer (some ⟨g, o, none⟩))) (hm : (g, cs, e) ∈ H) (hv : (cs.drop o).take k = vs) (hl : Nat.beq vs.length k = true) :
    Yields P n D w0 S ⟨d, .load t x, ty, pos, af, gd⟩ L H (.agg vs.toArray) := by
  intro a w ha hw
  have hl' : vs.length = k := Nat.eq_of_beq_eq_true hl
  have := run_loadAtN hs (a := ⟨g, o, none⟩) (cs := vs) (w := w) hl' (fun j v hj => by
    rw [Addr.add_lit, hw.cell hm]
    rw [← hv] at hj
    rw [List.getElem?_take] at hj
    split at hj
    · rwa [List.getElem?_drop] at hj
    · cases hj)
  simp [execOp, ha.ev_eq hx, this]
/-- A load out of the memory that was there. -/
theorem Hp.oldCell {w : World} (h : Hp w0 S H w) {a : Addr} (hb : a.block < w0.heap.size) (hS : a.block ∉ S) : w.cell? a = w0.cell? a := World.cell?_of_block (w := w0) (h.old _ hb hS)
theorem block_add (a : Addr) (i : Nat) : (a.add i).block = a.block := by unfold Addr.add; split <;> rfl
theorem y_oldLoad1 {t : TypeId} {x : Operand} {p : Addr} {v : Value} (hs : ldSize P t = some none) (hx : ev L x = some (.pointer (some p))) (hb : p.block < w0.heap.size) (hS : p.block ∉ S) (hv : w0.cell? p = some v) :
    Yields P n D w0 S ⟨d, .load t x, ty, pos, af, gd⟩ L H v := by
  intro a w ha hw
  simp [execOp, ha.ev_eq hx, run_loadAt1 hs ((hw.oldCell hb hS).trans hv)]
theorem y_oldLoadN {t : TypeId} {x : Operand} {k : Nat} {p : Addr} {vs : List Value} (hs : ldSize P t = some (some k)) (hx : ev L x = some (.pointer (some p))) (hb : p.block < w0.heap.size) (hS : p.block ∉ S)
    (hl : vs.length = k) (hv : ∀ j v, vs[j]? = some v → w0.cell? (p.add j) = some v) :
    Yields P n D w0 S ⟨d, .load t x, ty, pos, af, gd⟩ L H (.agg vs.toArray) := by
  intro a w ha hw
  have := run_loadAtN hs (a := p) (cs := vs) (w := w) hl (fun j v hj => by
    rw [hw.oldCell (by rw [block_add]; exact hb) (by rw [block_add]; exact hS)]; exact hv j v hj)
  simp [execOp, ha.ev_eq hx, this]
/-- 'len' of a slice. -/
def isSl (P : Program) (t : TypeId) : Option TypeId :=
  match P.underlying t with
  | some (.slice e) => some e
  | _ => none
theorem isSl_eq {t e : TypeId} (h : isSl P t = some e) : P.underlying t = some (.slice e) := by
  unfold isSl at h
  split at h
  · rename_i e' hu; injection h with h; subst h; exact hu
  · cases h
theorem y_len {t e : TypeId} {x : Operand} {p : Option Addr} {m c : Nat} (ht : isSl P t = some e) (hx : ev L x = some (.slice p m c)) :
    Yields P n D w0 S ⟨d, .call { callee := .builtin .len, args := #[x], argTypes := #[t] }, ty, pos, af, gd⟩ L H (.int .i64 m) := by
  intro a w ha hw
  simp [execOp, resolve, invoke, builtin, Builtin.len_, ha.ev_eq hx, run_underlying (isSl_eq ht), goInt]
/-- The size of an element. -/
def elSize (P : Program) (t : TypeId) : Option Nat :=
  match P.underlying t with
  | some (.slice e) => (P.info? e).map (·.size)
  | _ => none
theorem run_indexSl {t sz : Nat} (h : elSize P t = some sz) {p : Addr} {len cap : Nat} {k : IntKind} {i : Int} (h0 : 0 ≤ i) (h1 : i < len) (w : World) :
    (Instr.indexAt t (.slice (some p) len cap) (.int k i)).run P w = .ok (.pointer (some (p.add (i.toNat * sz)))) w := by
  unfold elSize at h
  split at h
  · rename_i e hu
    cases hi : P.info? e with
    | none => rw [hi] at h; cases h
    | some inf =>
      rw [hi] at h
      simp at h
      subst h
      simp [Instr.indexAt, asIntOf, run_underlying hu, h0, h1, sizeOf, typeInfo, hi]
  · cases h
theorem y_indexAddr {t sz : Nat} {x i : Operand} {p : Addr} {len cap : Nat} {k : IntKind} {j : Nat} (h : elSize P t = some sz) (hx : ev L x = some (.slice (some p) len cap)) (hi : ev L i = some (.int k (j : Int))) (hj : j < len) :
    Yields P n D w0 S ⟨d, .indexAddr t x i, ty, pos, af, gd⟩ L H (.pointer (some (p.add (j * sz)))) := by
  intro a w ha hw
  have := run_indexSl h (p := p) (len := len) (cap := cap) (i := (j : Int)) (k := k) (by omega) (by omega) w
  simp only [Int.toNat_natCast] at this
  simp [execOp, ha.ev_eq hx, ha.ev_eq hi, this]
theorem y_indexAddrOwn {t sz : Nat} {x i : Operand} {g : Nat} {len cap : Nat} {k : IntKind} {j : Nat} (h : elSize P t = some sz) (hx : ev L x = some (.slice (some ⟨g, 0, none⟩) len cap)) (hi : ev L i = some (.int k (j : Int))) (hj : j < len) :
    Yields P n D w0 S ⟨d, .indexAddr t x i, ty, pos, af, gd⟩ L H (.pointer (some ⟨g, j * sz, none⟩)) := by
  have := y_indexAddr (P := P) (n := n) (D := D) (w0 := w0) (S := S) (L := L) (H := H) (d := d) (ty := ty) (pos := pos) (af := af) (gd := gd) h hx hi hj
  rwa [Addr.add_lit, Nat.zero_add] at this
theorem y_extract {x : Operand} {i : Nat} {vs : Array Value} {v : Value} (hx : ev L x = some (.tuple vs)) (hv : vs[i]? = some v) : Yields P n D w0 S ⟨d, .extract x i, ty, pos, af, gd⟩ L H v := by
  intro a w ha hw
  simp [execOp, ha.ev_eq hx, Instr.extract, hv]
end vals
/- WHAT MAKES OR WRITES MEMORY; CALLS -/
section mem
variable {P : Program} {n : Nat} {D : List Deferred} {w0 : World} {S : List Nat} {L : Slots} {H : Heap}
variable {d : Option Tmp} {ty : TypeId} {pos : String} {af : Array Edge} {gd : Option (Nat × Bool)}
def zeroC (P : Program) (t : TypeId) : Option (List Value) := (P.info? t).bind fun i => i.zero.map fun z => z.cells.toList
theorem g_alloc {t : TypeId} {zs : List Value} (hz : zeroC P t = some zs) :
    Gives P n D w0 S ⟨d, .alloc t, ty, pos, af, gd⟩ L H (fun g => w0.heap.size ≤ g) (fun g => .pointer (some ⟨g, 0, none⟩)) (fun g => (g, zs, t) :: H) := by
  intro a w ha hw
  refine ⟨w.heap.size, _, hw.size, .inl ?_, hw.alloc zs t⟩
  unfold zeroC at hz
  cases hi : P.info? t with
  | none => rw [hi] at hz; cases hz
  | some i =>
    rw [hi] at hz
    cases hzz : i.zero with
    | none => simp [hzz] at hz
    | some z =>
      simp [hzz] at hz
      subst hz
      simp [execOp, Instr.alloc, zeroValue, typeInfo, hi, hzz, newVar, newRow]
theorem g_box {t : TypeId} {x : Operand} {v : Value} {vs : List Value} (hx : ev L x = some v) (hv : v.cells.toList = vs) :
    Gives P n D w0 S ⟨d, .box t x, ty, pos, af, gd⟩ L H (fun g => w0.heap.size ≤ g) (fun g => .pointer (some ⟨g, 0, none⟩)) (fun g => (g, vs, t) :: H) := by
  intro a w ha hw
  refine ⟨w.heap.size, _, hw.size, .inl ?_, hw.alloc vs t⟩
  subst hv
  simp [execOp, Instr.box, ha.ev_eq hx, newVar, newRow]
def splice (cs : List Value) (o : Nat) (vs : List Value) : List Value := cs.take o ++ vs ++ cs.drop (o + vs.length)
theorem foldl_set (vs : List Value) : ∀ (j off : Nat) (cs : List Value), off + j + vs.length ≤ cs.length →
    ((vs.zipIdx j).foldl (fun (c : Array Value) (x : Value × Nat) => c.setIfInBounds (off + x.2) x.1) cs.toArray) = (cs.take (off + j) ++ vs ++ cs.drop (off + j + vs.length)).toArray := by
  induction vs with
  | nil => intro j off cs _; simp
  | cons v vs ih =>
    intro j off cs h
    simp only [List.length_cons] at h
    simp only [List.zipIdx_cons, List.foldl_cons, List.setIfInBounds_toArray]
    rw [ih (j + 1) off (cs.set (off + j) v) (by simp; omega)]
    congr 1
    have h1 : off + (j + 1) = off + j + 1 := by omega
    rw [h1, List.take_set, List.take_succ_eq_append_getElem (by omega), List.drop_set_of_lt (by omega)]
    rw [List.set_append_right _ _ (by simp; omega)]
    simp only [List.length_take, List.length_cons]
    have h2 : off + j - min (off + j) cs.length = 0 := by omega
    rw [h2]
    have h3 : off + j + 1 + vs.length = off + j + (vs.length + 1) := by omega
    rw [h3]
    simp
/-- The places of a struct's fields, and its zero. -/
def bPlan (P : Program) (t : TypeId) : Option (List Value × List (Nat × Nat)) :=
  match P.underlying t with
  | some (.struct fs) => (zeroC P t).bind fun zs => (fs.toList.mapM fun f => (P.info? f.type).map fun i => (f.offset, i.size)).map fun ps => (zs, ps)
  | _ => none
def fillL (ps : List (Nat × Nat)) : List Value → List (Nat × List Value) → Option (List Value)
  | cs, [] => some cs
  | cs, (i, vs) :: r =>
    match ps[i]? with
    | some (off, size) => bif Nat.beq vs.length size && Nat.ble (off + vs.length) cs.length then fillL ps (splice cs off vs) r else none
    | none => none
theorem fill_eq (ps : Array (Nat × Nat)) : ∀ (parts : List (Nat × Value)) (cs out : List Value), fillL ps.toList cs (parts.map fun p => (p.1, p.2.cells.toList)) = some out →
    Instr.fill (ps[·]?) cs.toArray parts = some out.toArray := by
  intro parts
  induction parts with
  | nil => intro cs out h; simp [fillL] at h; simp [Instr.fill, h]
  | cons p r ih =>
    intro cs out h
    obtain ⟨i, v⟩ := p
    simp only [List.map_cons, fillL] at h
    cases hp : ps.toList[i]? with
    | none => rw [hp] at h; cases h
    | some x =>
      obtain ⟨off, size⟩ := x
      rw [hp] at h
      simp only at h
      cases hb : (Nat.beq v.cells.toList.length size && Nat.ble (off + v.cells.toList.length) cs.length) with
      | false => rw [hb] at h; cases h
      | true =>
        rw [hb] at h
        simp only [cond_true] at h
        simp only [Bool.and_eq_true] at hb
        have h1 := Nat.eq_of_beq_eq_true hb.1
        have h2 := Nat.le_of_ble_eq_true hb.2
        simp only [Array.length_toList] at h1 h2
        have hp' : ps[i]? = some (off, size) := by simpa using hp
        have hf := foldl_set v.cells.toList 0 off cs (by simpa using h2)
        simp only [Nat.add_zero] at hf
        have := ih _ _ h
        unfold Instr.fill
        simp only [hp']
        rw [if_neg (by simp; omega)]
        have he : Array.foldl (fun cs x => cs.setIfInBounds (off + x.2) x.1) cs.toArray v.cells.zipIdx = (splice cs off v.cells.toList).toArray := by
          rw [← Array.foldl_toList, Array.toList_zipIdx]
          exact hf
        rw [← this]
        congr 1
/-- The parts' values. -/
def evP (L : Slots) : List (Nat × Operand) → Option (List (Nat × List Value))
  | [] => some []
  | (i, x) :: r => match ev L x with
    | some v => match evP L r with
      | some vs => some ((i, v.cells.toList) :: vs)
      | none => none
    | none => none
theorem Env.evP_eq {a : Act} (ha : Env n D L a) : ∀ (ps : List (Nat × Operand)) (vs : List (Nat × List Value)), evP L ps = some vs → (ps.map fun p => (p.1, (a.eval p.2).cells.toList)) = vs := by
  intro ps
  induction ps with
  | nil => intro vs h; simp [evP] at h; simp [h]
  | cons p r ih =>
    intro vs h
    obtain ⟨i, x⟩ := p
    simp only [evP] at h
    cases hx : ev L x with
    | none => rw [hx] at h; cases h
    | some v =>
      rw [hx] at h
      simp only at h
      cases hr : evP L r with
      | none => rw [hr] at h; cases h
      | some us =>
        rw [hr] at h
        simp only [Option.some.injEq] at h
        subst h
        simp [ha.ev_eq hx, ih us hr]
theorem run_mapM_places {fs : List Field} {ps : List (Nat × Nat)} (h : (fs.mapM fun f => (P.info? f.type).map fun i => (f.offset, i.size)) = some ps) (w : World) :
    (fs.mapM fun f => do pure (f.offset, ← sizeOf f.type) : Sem (List (Nat × Nat))).run P w = .ok ps w := by
  induction fs generalizing ps with
  | nil => simp at h; subst h; simp
  | cons f r ih =>
    simp only [List.mapM_cons] at h ⊢
    cases hi : P.info? f.type with
    | none => rw [hi] at h; simp at h
    | some i =>
      rw [hi] at h
      cases hr : (r.mapM fun f => (P.info? f.type).map fun i => (f.offset, i.size)) with
      | none => rw [hr] at h; simp at h
      | some qs =>
        rw [hr] at h
        simp at h
        subst h
        have hone : (sizeOf f.type).run P w = .ok i.size w := by simp [sizeOf, typeInfo, hi]
        simp only [Sem.run_bind, hone, Result.andThen_ok, Sem.run_pure, ih hr]
theorem y_build {t : TypeId} {parts : Array (Nat × Operand)} {zs : List Value} {ps : List (Nat × Nat)} {vs : List (Nat × List Value)} {out : List Value} (hp : bPlan P t = some (zs, ps)) (hv : evP L parts.toList = some vs) (ho : fillL ps zs vs = some out) :
    Yields P n D w0 S ⟨d, .build t parts, ty, pos, af, gd⟩ L H (.agg out.toArray) := by
  intro a w ha hw
  unfold bPlan at hp
  split at hp
  · rename_i fs hu
    unfold zeroC at hp
    cases hi : P.info? t with
    | none => rw [hi] at hp; simp at hp
    | some inf =>
      rw [hi] at hp
      cases hz : inf.zero with
      | none => simp [hz] at hp
      | some z =>
        simp only [hz, Option.bind_some, Option.map_some] at hp
        cases hm : (fs.toList.mapM fun f => (P.info? f.type).map fun i => (f.offset, i.size)) with
        | none => rw [hm] at hp; simp at hp
        | some qs =>
          rw [hm] at hp
          simp at hp
          obtain ⟨h1, h2⟩ := hp
          subst h1; subst h2
          have hpl := run_mapM_places hm w
          have hpl' : (fs.mapM fun f => do pure (f.offset, ← sizeOf f.type) : Sem (Array (Nat × Nat))).run P w = .ok qs.toArray w := by
            rw [Array.mapM_eq_mapM_toList]
            simp only [Sem.run_map, hpl, Result.andThen_ok]
          have hfill : Instr.fill (qs.toArray[·]?) z.cells (parts.map fun p => (p.1, a.eval p.2)).toList = some out.toArray := by
            have := fill_eq qs.toArray (parts.map fun p => (p.1, a.eval p.2)).toList z.cells.toList out
            simp only [Array.toArray_toList] at this
            refine this ?_
            rw [← ho, ← ha.evP_eq _ _ hv]
            simp only [Array.toList_map, List.map_map]
            rfl
          simp only [execOp, Instr.build, Sem.run_bind, zeroValue, typeInfo, run_program, hi, hz, Sem.run_pure, Result.andThen_ok, run_underlying hu, hpl']
          simp only [hfill, Sem.run_pure, Result.andThen_ok]
  · cases hp
theorem hp_setRow {w : World} (hw : Hp w0 S H w) {g : Nat} {cs cs' : List Value} {e : TypeId} {H' : Heap} (hu : Upd H g cs e cs' H') : Hp w0 S H' (w.setRow g cs'.toArray) :=
  hw.upd hu rfl rfl rfl (by simp) (fun k hk => setRow_other w g k _ hk) (setRow_heap w g _ _ e _ (hw.blk g cs e hu.mem).1)
def szOf (P : Program) (t : TypeId) : Option Nat := (P.info? t).map (·.size)
theorem g_storeN {t : TypeId} {x y : Operand} {g o k : Nat} {cs vs cs' : List Value} {e : TypeId} {v : Value} {H' : Heap} (hs : szOf P t = some k) (hx : ev L x = some (.pointer (some ⟨g, o, none⟩))) (hy : ev L y = some v) (hv : v.cells.toList = vs)
    (hl : Nat.beq vs.length k = true) (hfit : Nat.ble (o + vs.length) cs.length = true) (h1 : vs.all Value.oneCell' = true) (hcs : splice cs o vs = cs') (hu : Upd H g cs e cs' H') :
    Gives P n D w0 S ⟨d, .store t x y, ty, pos, af, gd⟩ L H (fun _ : Unit => True) (fun _ => undef) (fun _ => H') := by
  intro a w ha hw
  subst hcs
  refine ⟨(), _, trivial, .inr ⟨?_, rfl⟩, hp_setRow hw hu⟩
  have hfit' := Nat.le_of_ble_eq_true hfit
  have hl' := Nat.eq_of_beq_eq_true hl
  have hst := run_storeCells_at P g o e vs 0 cs.toArray w (hw.blk g cs e hu.mem).1 (by simpa using hfit') (fun u hu => List.all_eq_true.1 h1 u hu)
  unfold szOf at hs
  cases hi : P.info? t with
  | none => rw [hi] at hs; cases hs
  | some inf =>
    rw [hi] at hs
    simp at hs
    have hsz : v.cells.size = inf.size := by rw [hs, ← hl', ← hv]; simp
    simp only [Nat.add_zero] at hst
    simp only [execOp, Instr.storeAt, Instr.sureAddr, ha.ev_eq hx, ha.ev_eq hy, Sem.run_bind, Sem.run_pure, Result.andThen_ok, storeVar, sizeOf, typeInfo, run_program, hi, hsz, hv]
    simp only [ne_eq, not_true_eq_false, if_false, Result.andThen_ok, hst]
    rfl
theorem splice_one (cs : List Value) (o : Nat) (v : Value) (h : o < cs.length) : splice cs o [v] = cs.set o v := by
  unfold splice
  rw [List.set_eq_take_append_cons_drop]
  simp [h]
theorem g_store1 {t : TypeId} {x y : Operand} {g o : Nat} {cs cs' : List Value} {e : TypeId} {v : Value} {H' : Heap} (hs : szOf P t = some 1) (hx : ev L x = some (.pointer (some ⟨g, o, none⟩))) (hy : ev L y = some v) (hv : v.cells = #[v])
    (hfit : Nat.blt o cs.length = true) (h1 : v.oneCell' = true) (hcs : cs.set o v = cs') (hu : Upd H g cs e cs' H') :
    Gives P n D w0 S ⟨d, .store t x y, ty, pos, af, gd⟩ L H (fun _ : Unit => True) (fun _ => undef) (fun _ => H') :=
  g_storeN (vs := [v]) hs hx hy (by rw [hv]) rfl hfit (by simp [h1]) ((splice_one _ _ _ (Nat.le_of_ble_eq_true hfit)).trans hcs) hu
/-- A slice of the call's own: nil, or at the head of a block. -/
abbrev Sv := Option (Nat × List Value × Nat)
def slV (sv : Sv) (m : Nat) : Value := match sv with | none => .slice none 0 0 | some (g, _, cap) => .slice (some ⟨g, 0, none⟩) m cap
def slH (sv : Sv) (xs : List Value) (e : TypeId) : Heap := match sv with | none => [] | some (g, sp, _) => [(g, xs ++ sp, e)]
def slOk (sv : Sv) (m sz : Nat) (xs : List Value) : Prop := xs.length = m * sz ∧ match sv with | none => m = 0 | some (_, sp, cap) => m ≤ cap ∧ cap ≤ maxLen ∧ (xs ++ sp).length = cap * sz
theorem Hp.frameLike {H1 Hr : Heap} {w w' : World} {H2 : Heap} (h : Hp w0 S (H1 ++ Hr) w) (h' : Hp w (H1.map (·.1)) H2 w') : Hp w0 S (H2 ++ Hr) w' := by
  have hnd := List.pairwise_append.1 h.nd
  have hidS : ∀ g, g ∈ H1.map (·.1) → g ∈ S ∨ w0.heap.size ≤ g := by
    intro g hg
    obtain ⟨x, hx, rfl⟩ := List.mem_map.1 hg
    exact (h.blk x.1 x.2.1 x.2.2 (List.mem_append.2 (.inl hx))).2
  have hcross : ∀ g cs e, (g, cs, e) ∈ Hr → g ∉ H1.map (·.1) := by
    intro g cs e hm hg
    obtain ⟨x, hx, hxe⟩ := List.mem_map.1 hg
    exact hnd.2.2 x hx _ hm hxe
  have hlt : ∀ g cs e, (g, cs, e) ∈ Hr → g < w.heap.size := fun g cs e hm => h.lt (List.mem_append.2 (.inr hm))
  refine ⟨h'.os.trans h.os, h'.tape.trans h.tape, h'.output.trans h.output, Nat.le_trans h.size h'.size, fun k hk hkS => ?_, fun g cs e hm => ?_, ?_⟩
  · rw [h'.old k (by have := h.size; omega) (fun hk1 => ?_)]
    · exact h.old k hk hkS
    · rcases hidS k hk1 with h1 | h1
      · exact hkS h1
      · omega
  · rcases List.mem_append.1 hm with hm | hm
    · have hb := h'.blk g cs e hm
      refine ⟨hb.1, ?_⟩
      rcases hb.2 with h1 | h1
      · exact hidS g h1
      · exact .inr (Nat.le_trans h.size h1)
    · have hb := h.blk g cs e (List.mem_append.2 (.inr hm))
      exact ⟨by rw [h'.old g (hlt g cs e hm) (hcross g cs e hm)]; exact hb.1, hb.2⟩
  · refine List.pairwise_append.2 ⟨h'.nd, hnd.2.1, fun x hx y hy he => ?_⟩
    have hb := (h'.blk x.1 x.2.1 x.2.2 hx).2
    have hy' := hlt y.1 y.2.1 y.2.2 hy
    rcases hb with h1 | h1
    · exact hcross y.1 y.2.1 y.2.2 hy (by rw [← he]; exact h1)
    · omega
theorem Hp.refl (w : World) : Hp w [] [] w := ⟨rfl, rfl, rfl, Nat.le_refl _, fun _ _ _ => rfl, fun _ _ _ h => absurd h List.not_mem_nil, List.Pairwise.nil⟩
theorem own_of_sv {w : World} {sv : Sv} {m sz : Nat} {xs : List Value} {e : TypeId} {Hr : Heap} (hw1 : Hp w0 S (slH sv xs e ++ Hr) w) (hok : slOk sv m sz xs) : w.ownsRow 0 e sz (slV sv m) m xs := by
  refine ⟨hok.1, ?_⟩
  have h2 := hok.2
  cases sv with
  | none => simp only at h2; subst h2; exact .inl ⟨rfl, rfl⟩
  | some q =>
    obtain ⟨g, sp, cap⟩ := q
    simp only at h2
    have hb := (hw1.blk g (xs ++ sp) e (by simp [slH])).1
    refine .inr ⟨g, cap, _, rfl, Nat.zero_le _, hb, h2.1, h2.2.1, by simpa using h2.2.2, ?_⟩
    rw [← hok.1]
    exact List.take_left
theorem app_core {w w' : World} {sv : Sv} {m k sz : Nat} {xs news : List Value} {e : TypeId} {Hr : Heap} {v' : Value} (hw1 : Hp w0 S (slH sv xs e ++ Hr) w) (hown' : w'.ownsRow 0 e sz v' (m + k) (xs ++ news)) (hgr : w.grownBy w' (slV sv m).ownBlock)
    (hplace : v'.ownBlock = (slV sv m).ownBlock ∨ v'.ownBlock = some w.heap.size) :
    ∃ sv' : Sv, v' = slV sv' (m + k) ∧ slOk sv' (m + k) sz (xs ++ news) ∧ Hp w0 S (slH sv' (xs ++ news) e ++ Hr) w' := by
  have hex : ∃ sv' : Sv, v' = slV sv' (m + k) ∧ slOk sv' (m + k) sz (xs ++ news) ∧ (∀ g cs e', (g, cs, e') ∈ slH sv' (xs ++ news) e → w'.heap[g]? = some (.cells cs.toArray e' (0, 0))) := by
    obtain ⟨hl, h2⟩ := hown'
    rcases h2 with ⟨hv, hm0⟩ | ⟨g, cap, cur, hv, _, hg, hnc, hcm, hcs, htake⟩
    · exact ⟨none, by rw [hv, hm0]; rfl, ⟨hl, hm0⟩, fun g cs e' hm => by cases hm⟩
    · have hcur : cur = ((xs ++ news) ++ cur.toList.drop ((m + k) * sz)).toArray := by
        rw [← htake, List.take_append_drop, Array.toArray_toList]
      refine ⟨some (g, cur.toList.drop ((m + k) * sz), cap), hv, ⟨hl, hnc, hcm, ?_⟩, fun g' cs e' hm => ?_⟩
      · have : ((xs ++ news) ++ cur.toList.drop ((m + k) * sz)).toArray.size = cap * sz := by rw [← hcur]; exact hcs
        simpa using this
      · simp only [slH, List.mem_cons, Prod.mk.injEq, List.not_mem_nil, or_false] at hm
        obtain ⟨rfl, rfl, rfl⟩ := hm
        rw [← hcur]; exact hg
  obtain ⟨sv', hv', hok', hblk'⟩ := hex
  subst hv'
  refine ⟨sv', rfl, hok', ?_⟩
  have hids : (slH sv xs e).map (·.1) = (match sv with | none => [] | some (g, _, _) => [g]) := by cases sv <;> rfl
  have hown2 : (slV sv m).ownBlock = (match sv with | none => none | some (g, _, _) => some g) := by cases sv <;> rfl
  refine Hp.frameLike (H1 := slH sv xs e) (H2 := slH sv' (xs ++ news) e) hw1 ?_
  refine ⟨hgr.os, hgr.tape, hgr.output, hgr.size, fun j hj hjS => hgr.block j hj (fun he => hjS ?_), fun g cs e' hm => ⟨hblk' g cs e' hm, ?_⟩, ?_⟩
  · rw [hown2] at he
    rw [hids]
    cases sv with
    | none => cases he
    | some q => simp only [Option.some.injEq] at he; simp [he]
  · rw [hids]
    cases sv' with
    | none => cases hm
    | some q' =>
      obtain ⟨g', sp', cap'⟩ := q'
      simp only [slH, List.mem_cons, Prod.mk.injEq, List.not_mem_nil, or_false] at hm
      obtain ⟨rfl, _, _⟩ := hm
      rcases hplace with hp | hp
      · left
        rw [hown2] at hp
        cases sv with
        | none => simp [slV, Value.ownBlock] at hp
        | some q => simp only [slV, Value.ownBlock, Option.some.injEq] at hp; simp [hp]
      · right
        simp only [slV, Value.ownBlock, Option.some.injEq] at hp
        omega
  · cases sv' <;> simp [slH]
/-- THE APPEND. -/
theorem g_append {t e : TypeId} {x y : Operand} {sv : Sv} {m sz by_ : Nat} {xs : List Value} {gy ky : Nat} {cy : Nat} {news sy : List Value} {ey : TypeId} {Hr : Heap} {z : Value} {inf : TypeInfo}
    (ht : isSl P t = some e) (hinf : P.info? e = some inf) (hz : inf.zero = some z) (hsz : inf.size = sz) (hby : inf.bytes = by_) (hzs : z.cells.size = sz) (hpos : 0 < sz)
    (hx : ev L x = some (slV sv m)) (hy : ev L y = some (.slice (some ⟨gy, 0, none⟩) ky cy)) (hok : slOk sv m sz xs)
    (hH : H.Perm (slH sv xs e ++ Hr)) (hmy : (gy, news ++ sy, ey) ∈ H) (hly : news.length = ky * sz) (h1 : ∀ u ∈ news, u.oneCell' = true) (h63 : m + ky ≤ maxLen) (hbytes : (m + ky) * by_ ≤ 140737488355328) :
    Gives P n D w0 S ⟨d, .call { callee := .builtin .append, args := #[x, y], argTypes := #[t, t] }, ty, pos, af, gd⟩ L H
      (fun sv' : Sv => slOk sv' (m + ky) sz (xs ++ news)) (fun sv' => slV sv' (m + ky)) (fun sv' => slH sv' (xs ++ news) e ++ Hr) := by
  intro a w ha hw
  have hw1 := hw.perm hH
  have hnews : ∀ j u, news[j]? = some u → w.cell? ((⟨gy, 0, none⟩ : Addr).add j) = some u := by
    intro j u hj
    rw [Addr.add_lit, Nat.zero_add, hw.cell hmy]
    have : j < news.length := by
      rcases Nat.lt_or_ge j news.length with h | h
      · exact h
      · rw [List.getElem?_eq_none h] at hj; cases hj
    rw [List.getElem?_append_left this]; exact hj
  obtain ⟨v', w', hrun, hown', hgr, _, hplace⟩ := run_append_own_at (P := P) w 0 t ty e inf z sz by_ (isSl_eq ht) hinf hz hsz hby hzs hpos (slV sv m) m xs (own_of_sv hw1 hok) ⟨gy, 0, none⟩ ky cy news hly hnews h1 h63 hbytes (Nat.zero_le _)
  obtain ⟨sv', hv', hok', hH'⟩ := app_core hw1 hown' hgr hplace
  refine ⟨sv', w', hok', .inl ?_, hH'⟩
  simp [execOp, resolve, invoke, builtin, ha.ev_eq hx, ha.ev_eq hy, hrun, hv']
end mem
/- CALLS, BODIES, REGIONS THAT DRAW -/
section calls
variable {P : Program} {Q : Exit → Act → World → Prop} {n : Nat} {D : List Deferred} {w0 : World} {S : List Nat} {L : Slots} {H : Heap} {ops : Array Oper} {rest : List Oper}
variable {d : Option Tmp} {ty : TypeId} {pos : String} {af : Array Edge}
/-- What a call comes to: a value of a family, and its memory; 'S', 'w': the world in which it began, and what it may have written. -/
def Out {ι : Type} (w : World) (S : List Nat) (φ : ι → Prop) (v : ι → Value) (H : ι → Heap) (e : Ending) (w' : World) : Prop := ∃ x, φ x ∧ e = .returned (v x) ∧ Hp w S (H x) w'
def evs (L : Slots) : List Operand → Option (List Value)
  | [] => some []
  | x :: r => match ev L x with
    | some v => match evs L r with
      | some vs => some (v :: vs)
      | none => none
    | none => none
theorem Env.evs_eq {a : Act} (ha : Env n D L a) : ∀ (xs : List Operand) (vs : List Value), evs L xs = some vs → xs.map a.eval = vs := by
  intro xs
  induction xs with
  | nil => intro vs h; simp [evs] at h; simp [h]
  | cons x r ih =>
    intro vs h
    simp only [evs] at h
    cases hx : ev L x with
    | none => rw [hx] at h; cases h
    | some v =>
      rw [hx] at h
      simp only at h
      cases hr : evs L r with
      | none => rw [hr] at h; cases h
      | some us =>
        rw [hr] at h
        simp only [Option.some.injEq] at h
        subst h
        simp [ha.ev_eq hx, ih us hr]
/-- A function that has a body of its own. -/
def callOk (P : Program) (f : Nat) : Bool := match P.funcs[f]? with | some fn => (fn.name == "runtime.NumGoroutine") == false && fn.body.isNone == false | none => false
theorem run_call {f : Nat} {args : Array Operand} {tys : Array TypeId} {x : Operand} {vals : List Value} {u v : Array Value} {gd : Option (Nat × Bool)} (hok : callOk P f = true) (hx : ev L x = some (.func (.func f) u v)) (hargs : evs L args.toList = some vals) {a : Act} (ha : Env n D L a) (w : World) :
    (execOp a.eval ⟨d, .call { callee := .value x, args, argTypes := tys }, ty, pos, af, gd⟩).run P w = .ok (.enter f (u ++ vals.toArray ++ v)) w := by
  have h1 : args.map a.eval = vals.toArray := by
    rw [← ha.evs_eq _ _ hargs]
    apply Array.toList_inj.1
    simp
  unfold callOk at hok
  split at hok
  · rename_i fn hfn
    simp only [Bool.and_eq_true, beq_iff_eq] at hok
    have hc : (callFunc f (u ++ vals.toArray ++ v)).run P w = .ok (.enter f (u ++ vals.toArray ++ v)) w := by
      unfold callFunc
      simp only [Sem.run_bind, run_program, Result.andThen_ok, hfn, hok.1, hok.2, Bool.false_eq_true, if_false, Sem.run_pure]
    simp only [execOp, resolve, ha.ev_eq hx, Deferred.ofValue, invoke, Sem.run_bind, Sem.run_pure, Result.andThen_ok, h1, hc]
  · cases hok
theorem l_callF {f : Nat} {x : Operand} {args : Array Operand} {tys : Array TypeId} {vals : List Value} {u v : Array Value} {ι : Type} {φ : ι → Prop} {vv : ι → Value} {H' : ι → Heap} {dst : Option Nat}
    (hok : callOk P f = true) (hx : ev L x = some (.func (.func f) u v)) (hargs : evs L args.toList = some vals) (hc : ∀ w, Hp w0 S H w → Calls P f (u ++ vals.toArray ++ v) w (Out w0 S φ vv H'))
    (h : ∀ y, φ y → ∀ a w, Env n D L a → Hp w0 S (H' y) w → wpList P ops Q rest (a.put dst (vv y)) w) :
    Wl P Q n D w0 S ops (⟨dst, .call { callee := .value x, args, argTypes := tys }, ty, pos, af, none⟩ :: rest) L H := by
  intro a w ha hw
  refine wpList_plain rfl fun K hK => ?_
  unfold Oper.wp
  rw [run_call hok hx hargs ha w, Oper.upon_enter]
  refine (hc w hw).mono fun e w' he => ?_
  obtain ⟨y, hy, rfl, hH⟩ := he
  exact hK _ _ (h y hy a w' ha hH)
theorem l_call {f : Nat} {args : Array Operand} {tys : Array TypeId} {vals : List Value} {ι : Type} {φ : ι → Prop} {vv : ι → Value} {H' : ι → Heap} {dst : Nat}
    (hok : callOk P f = true) (hargs : evs L args.toList = some vals) (hn : Nat.blt dst n = true) (hc : ∀ w, Hp w0 S H w → Calls P f vals.toArray w (Out w0 S φ vv H'))
    (h : ∀ y, φ y → Wl P Q n D w0 S ops rest ((dst, vv y) :: L) (H' y)) :
    Wl P Q n D w0 S ops (⟨some dst, .call { callee := .value (.func f), args, argTypes := tys }, ty, pos, af, none⟩ :: rest) L H :=
  l_callF (u := #[]) (v := #[]) hok rfl hargs (by simpa using hc) (fun y hy a w ha hw => h y hy _ _ (ha.put hn _) hw)
/-- The contract of a callee in the caller's memory: what it may write comes first. -/
theorem out_frame {f : Nat} {args : Array Value} {ι : Type} {φ : ι → Prop} {vv : ι → Value} {H1 Hr : Heap} {H2 : ι → Heap} {w : World} (hw : Hp w0 S H w) (hp : H.Perm (H1 ++ Hr))
    (hc : Calls P f args w (Out w (H1.map (·.1)) φ vv H2)) : Calls P f args w (Out w0 S φ vv (fun x => H2 x ++ Hr)) :=
  hc.mono fun _ _ ⟨x, hx, he, hH⟩ => ⟨x, hx, he, (hw.perm hp).frameLike hH⟩
theorem out_frame0 {f : Nat} {args : Array Value} {ι : Type} {φ : ι → Prop} {vv : ι → Value} {H2 : ι → Heap} {w : World} (hw : Hp w0 S H w)
    (hc : Calls P f args w (Out w [] φ vv H2)) : Calls P f args w (Out w0 S φ vv (fun x => H2 x ++ H)) :=
  hc.mono fun _ _ ⟨x, hx, he, hH⟩ => ⟨x, hx, he, Hp.frameLike (H1 := []) (Hr := H) hw hH⟩
/-- A callee that keeps nothing that it makes. -/
theorem out_plain {f : Nat} {args : Array Value} {v : Value} {w : World} (hw : Hp w0 S H w)
    (hc : Calls P f args w (Out w [] (fun _ : Unit => True) (fun _ => v) (fun _ => []))) : Calls P f args w (Out w0 S (fun _ : Unit => True) (fun _ => v) (fun _ => H)) :=
  hc.mono fun _ _ ⟨x, hx, he, hH⟩ => ⟨x, hx, he, Hp.frameLike (H1 := []) (Hr := H) hw hH⟩
def slotsFrom : Nat → List Value → Slots
  | _, [] => []
  | i, v :: r => (i, v) :: slotsFrom (i + 1) r
theorem get_slotsFrom (vs : List Value) : ∀ (i t : Nat) (v : Value), Eng.get (slotsFrom i vs) t = some v → i ≤ t ∧ vs[t - i]? = some v := by
  induction vs with
  | nil => intro i t v h; simp [slotsFrom, Eng.get] at h
  | cons u r ih =>
    intro i t v h
    simp only [slotsFrom, Eng.get] at h
    cases hb : Nat.beq t i with
    | true =>
      rw [hb] at h
      have : t = i := Nat.eq_of_beq_eq_true hb
      subst this
      simpa using h
    | false =>
      rw [hb] at h
      obtain ⟨h1, h2⟩ := ih (i + 1) t v h
      refine ⟨by omega, ?_⟩
      have : t - i = (t - (i + 1)) + 1 := by omega
      rw [this]
      simpa using h2
/-- A BODY. -/
theorem enter {f : Nat} {fn : Func} {c : Code} {args : List Value} {R : Ending → World → Prop} {w : World} {S : List Nat} {H : Heap} (hf : P.funcs[f]? = some fn) (hb : fn.body = some c) (hn : fn.ntmps = n) (ha : Nat.ble args.length n = true) (hw : Hp w S H w)
    (h : Wc P (bodyPost P fn R) n [] w S c (slotsFrom 0 args) H) : Calls P f args.toArray w R := by
  refine calls_of_wp hf hb (h _ w ?_ hw)
  have hle := Nat.le_of_ble_eq_true ha
  refine ⟨by simp [hn]; omega, rfl, fun t v hv => ?_⟩
  obtain ⟨_, h2⟩ := get_slotsFrom args 0 t v hv
  simp only [Nat.sub_zero] at h2
  have hlt : t < args.length := by
    rcases Nat.lt_or_ge t args.length with h | h
    · exact h
    · rw [List.getElem?_eq_none h] at h2; cases h2
  rw [Array.getElem?_append_left (by simpa using hlt)]
  simpa using h2
/-- What the results' places hold. -/
def resV (P : Program) (L : Slots) (H : Heap) : List ResultVar → List Value → Prop
  | [], [] => True
  | .tmp t :: r, v :: vs => get L t = some v ∧ resV P L H r vs
  | .cell t ty :: r, v :: vs => (∃ g o cs e, get L t = some (.pointer (some ⟨g, o, none⟩)) ∧ (g, cs, e) ∈ H ∧ ((ldSize P ty = some none ∧ cs[o]? = some v) ∨ (∃ k us, ldSize P ty = some (some k) ∧ (cs.drop o).take k = us ∧ us.length = k ∧ v = .agg us.toArray))) ∧ resV P L H r vs
  | _, _ => False
theorem run_loadVar_of {t : TypeId} {a : Addr} {w w' : World} {v : Value} (h : (Instr.loadAt t (.pointer (some a))).run P w = .ok v w') : (loadVar t a).run P w = .ok v w' := by
  simpa [Instr.loadAt, Instr.sureAddr] using h
def resStep (tmps : Array Value) : ResultVar → Sem Value
  | .tmp t => pure (tmps.getD t undef)
  | .cell a t => do loadVar t (← asAddr (tmps.getD a undef))
def rets : List Value → Value
  | [v] => v
  | vs => .tuple vs.toArray
theorem results_eq (fn : Func) (tmps : Array Value) : results fn tmps = (do let vs ← fn.results.mapM (resStep tmps); pure (if h : vs.size = 1 then vs[0] else .tuple vs)) := rfl
theorem run_results {a : Act} {w : World} (ha : Env n D L a) (hw : Hp w0 S H w) : ∀ (rs : List ResultVar) (vs : List Value), resV P L H rs vs →
    (rs.mapM (resStep a.tmps)).run P w = .ok vs w := by
  intro rs
  induction rs with
  | nil => intro vs h; cases vs with | nil => simp | cons v r => exact h.elim
  | cons r rs ih =>
    intro vs h
    cases vs with
    | nil => cases r <;> exact h.elim
    | cons v vs =>
      have hone : (resStep a.tmps r).run P w = .ok v w ∧ resV P L H rs vs := by
        cases r with
        | tmp t =>
          obtain ⟨h1, h2⟩ := h
          have := ha.get t v h1
          exact ⟨by simp [resStep, Array.getD_eq_getD_getElem?, this], h2⟩
        | cell t ty =>
          obtain ⟨⟨g, o, cs, e, h1, hm, hld⟩, h2⟩ := h
          have hslot : a.tmps.getD t undef = .pointer (some ⟨g, o, none⟩) := by
            have := ha.get t _ h1
            simp [Array.getD_eq_getD_getElem?, this]
          have hrun : (loadVar ty ⟨g, o, none⟩).run P w = .ok v w := by
            rcases hld with ⟨hs, hv⟩ | ⟨k, us, hs, hus, hl, hv⟩
            · exact run_loadVar_of (run_loadAt1 hs ((hw.cell hm o).trans hv))
            · subst hv
              refine run_loadVar_of (run_loadAtN hs hl fun j u hj => ?_)
              rw [Addr.add_lit, hw.cell hm]
              rw [← hus, List.getElem?_take] at hj
              split at hj
              · rwa [List.getElem?_drop] at hj
              · cases hj
          exact ⟨by simp only [resStep, Sem.run_bind, hslot, asAddr, Sem.run_pure, Result.andThen_ok, hrun], h2⟩
      simp only [List.mapM_cons, Sem.run_bind, hone.1, Result.andThen_ok, ih vs hone.2, Sem.run_pure]
/-- THE END OF A BODY. -/
theorem body_ret {fn : Func} {R : Ending → World → Prop} {rs : List ResultVar} {vs : List Value} (hrs : fn.results.toList = rs) (hv : resV P L H rs vs) (hR : ∀ w, Hp w0 S H w → R (.returned (rets vs)) w) :
    ∀ e, e = .normal ∨ e = .ret → Wq (bodyPost P fn R) n [] w0 S e L H := by
  intro e he a w ha hw
  have hres : (results fn a.tmps).run P w = .ok (rets vs) w := by
    have h1 := run_results (P := P) ha hw rs vs hv
    have h2 : (fn.results.mapM (resStep a.tmps)).run P w = .ok vs.toArray w := by
      rw [Array.mapM_eq_mapM_toList, hrs]
      simp only [Sem.run_map, h1, Result.andThen_ok]
    rw [results_eq]
    simp only [Sem.run_bind, h2, Result.andThen_ok, Sem.run_pure]
    match vs with
    | [] => rfl
    | [v] => rfl
    | _ :: _ :: _ => simp [rets]
  rcases he with rfl | rfl <;> exact ⟨ha.defers, _, hres, hR w hw⟩
theorem out_end {ι : Type} {φ : ι → Prop} {v : ι → Value} {H' : ι → Heap} {u : Value} (x : ι) (hφ : φ x) (hv : u = v x) (hH : SubH (H' x) H) : ∀ w, Hp w0 S H w → Out w0 S φ v H' (.returned u) w :=
  fun _ hw => ⟨x, hφ, by rw [hv], hw.sub hH⟩
end calls
/- REGIONS THAT DRAW THEIR ORDER: an operation that leaves the world alone may come first. 'C': what holds of the world all along. -/
section draws
variable {P : Program} {Q : Exit → Act → World → Prop} {ops : Array Oper} {C : World → Prop}
def wpC (P : Program) (ops : Array Oper) (C : World → Prop) (Q : Exit → Act → World → Prop) : Nat → Array Bool → Act → World → Prop
  | 0, listed, a, w => C w ∧ Region.ready .any ops listed = [] ∧ Q .normal a w
  | fuel + 1, listed, a, w => C w ∧ (Region.ready .any ops listed = [] → Q .normal a w) ∧
    ∀ i ∈ Region.ready .any ops listed, wpOp P ops Q i (wpC P ops C Q fuel (listed.setIfInBounds i true)) a w
theorem wpAny_of_wpC : ∀ (fuel : Nat) (listed : Array Bool) (a : Act) (w : World), wpC P ops C Q fuel listed a w → wpAny P .any ops Q fuel listed a w
  | 0, _, _, _, h => h.2
  | fuel + 1, _, _, _, h => ⟨h.2.1, fun i hi => wpOp_mono (fun a w => wpAny_of_wpC fuel _ a w) (h.2.2 i hi)⟩
/-- It comes to one value in every world of the class, and leaves the world alone. -/
def Does (P : Program) (o : Oper) (a : Act) (w : World) (v : Value) : Prop :=
  (execOp a.eval o).run P w = .ok (.value v) w ∨ ∃ f args, (execOp a.eval o).run P w = .ok (.enter f args) w ∧ Calls P f args w (fun e w' => e = .returned v ∧ w' = w)
def Calm (P : Program) (ops : Array Oper) (C : World → Prop) (o : Oper) (v : Value) (a : Act) : Prop :=
  (Region.wanted o (yielded ops a.tmps) = true ∧ ∀ w, C w → Does P o a w v) ∨ (Region.wanted o (yielded ops a.tmps) = false ∧ v = undef)
theorem Calm.wpOp {i : Nat} {o : Oper} {v : Value} {a : Act} (hi : ops[i]? = some o) (hy : Calm P ops C o v a) {K : Act → World → Prop} {w : World} (hC : C w) (h : K (a.put o.dst v) w) : wpOp P ops Q i K a w := by
  unfold Go.wpOp
  simp only [hi]
  rcases hy with ⟨hw, hv⟩ | ⟨hw, rfl⟩
  · simp only [hw, if_true]
    left
    unfold Oper.wp
    rcases hv w hC with hr | ⟨f, args, hr, hc⟩
    · rw [hr]; exact h
    · rw [hr, Oper.upon_enter]
      refine hc.mono ?_
      rintro e w' ⟨rfl, rfl⟩
      exact h
  · simp only [hw, Bool.false_eq_true, if_false]; exact h
theorem Calm.of_same {o : Oper} {v : Value} {a a' : Act} (hy : Calm P ops C o v a) (he : execOp a'.eval o = execOp a.eval o)
    (hw : Region.wanted o (yielded ops a'.tmps) = Region.wanted o (yielded ops a.tmps)) : Calm P ops C o v a' := by
  unfold Calm Does at *
  rw [he, hw]
  exact hy
theorem wpOp_calm {j : Nat} {oi oj : Oper} {v : Value} (hj : ops[j]? = some oj) (hap : oi.apart ops oj = true)
    (hsi : ∀ cs b, oi.op ≠ .select cs b) (hsj : ∀ cs b, oj.op ≠ .select cs b) (hQ : ∀ c a w, Q (.panic c) (a.put oi.dst v) w → Q (.panic c) a w) {K : Act → World → Prop} {a : Act} {w : World}
    (hy : Calm P ops C oi v a) (h : wpOp P ops Q j K (a.put oi.dst v) w) : wpOp P ops Q j (fun a' w' => Calm P ops C oi v a' ∧ K (a'.put oi.dst v) w') a w := by
  obtain ⟨h1, h2, h3⟩ := Oper.apart_spec hap
  have keep : ∀ (a : Act), Calm P ops C oi v a → ∀ u, Calm P ops C oi v (a.put oj.dst u) := fun a hy u => hy.of_same (execOp_put oi hsi a oj.dst u h3) (wanted_put oi a oj.dst u h3)
  have keepD : ∀ d, Calm P ops C oi v { a with defers := d :: a.defers } := fun d => hy.of_same rfl rfl
  unfold wpOp at *
  simp only [hj] at *
  rw [wanted_put oj a oi.dst v h1] at h
  split
  · rename_i hw
    simp only [hw, if_true] at h
    rcases h with h | ⟨hasks, hlets⟩
    case inr => exact .inr ⟨by unfold Oper.asks at *; rw [execOp_put oj hsj a oi.dst v h1] at hasks; exact hasks, hlets⟩
    refine .inl ?_
    unfold Oper.wp at *
    rw [execOp_put oj hsj a oi.dst v h1] at h
    generalize (execOp a.eval oj).run P w = r at *
    cases r with
    | ok n w' =>
      cases n <;> simp only [Oper.upon] at h ⊢
      case value u => exact ⟨keep a hy u, by rw [← Act.put_comm a v u h2]; exact h⟩
      case skip => exact ⟨keep a hy _, by rw [← Act.put_comm a v undef h2]; exact h⟩
      case defer d =>
        refine ⟨keep _ (keepD d) _, ?_⟩
        rw [← Act.put_comm _ v undef h2, ← Act.put_defers]
        exact h
      case enter f args =>
        refine Calls.mono h fun e w'' he => ?_
        cases e with
        | returned u => exact ⟨keep a hy u, by rw [← Act.put_comm a v u h2]; exact he⟩
        | panicked c => exact hQ _ _ _ he
        | outgrown => exact he
      case row row args => exact Rows.mono h fun u w'' he => ⟨keep a hy u, by rw [← Act.put_comm a v u h2]; exact he⟩
    | halt x w' =>
      cases x <;> simp only [Oper.upon] at h ⊢
      case panic u => exact hQ _ _ _ h
  · rename_i hw
    simp only [hw] at h
    exact ⟨keep a hy _, by rw [← Act.put_comm a v undef h2]; exact h⟩
theorem wpC_first {i : Nat} {oi : Oper} {v : Value} (hi : ops[i]? = some oi) (hsel : ∀ (j : Nat) (o : Oper) cs b, ops[j]? = some o → o.op ≠ .select cs b) (hQ : ∀ c a w, Q (.panic c) (a.put oi.dst v) w → Q (.panic c) a w) :
    ∀ (fuel : Nat) (listed : Array Bool) (a : Act) (w : World),
      (∀ j oj, ops[j]? = some oj → j ≠ i → listed.getD j true = false → (∀ e ∈ oj.after, Region.binds .any e = true → e.on ≠ i) → oi.apart ops oj = true) →
      i ∈ Region.ready .any ops listed → Calm P ops C oi v a → wpC P ops C Q fuel (listed.setIfInBounds i true) (a.put oi.dst v) w → wpC P ops C Q (fuel + 1) listed a w := by
  intro fuel
  induction fuel with
  | zero =>
    intro listed a w _ hr hy H
    refine ⟨H.1, fun h => (by rw [h] at hr; cases hr), fun j hj => ?_⟩
    by_cases hji : j = i
    · subst hji; exact hy.wpOp hi H.1 H
    · have := ready_mono hj hji
      rw [H.2.1] at this
      cases this
  | succ fuel ih =>
    intro listed a w hfree hr hy H
    refine ⟨H.1, fun h => (by rw [h] at hr; cases hr), fun j hj => ?_⟩
    by_cases hji : j = i
    · subst hji; exact hy.wpOp hi H.1 H
    · have h1 := H.2.2 j (ready_mono hj hji)
      obtain ⟨hjun, oj, hoj, hall⟩ := mem_ready.1 hj
      have hnot : ∀ e ∈ oj.after, Region.binds .any e = true → e.on ≠ i := fun e he hb heq => by
        have h1 := hall e he hb
        have h0 := (mem_ready.1 hr).1
        rw [heq] at h1
        rcases Nat.lt_or_ge i listed.size with h' | h'
        · simp [h'] at h0 h1; rw [h0] at h1; cases h1
        · simp [Array.getElem?_eq_none h'] at h1
      have h2 := wpOp_calm hoj (hfree j oj hoj hji hjun hnot) (fun cs b => hsel i oi cs b hi) (fun cs b => hsel j oj cs b hoj) hQ hy h1
      have hfree' : ∀ k ok, ops[k]? = some ok → k ≠ i → (listed.setIfInBounds j true).getD k true = false →
          (∀ e ∈ ok.after, Region.binds .any e = true → e.on ≠ i) → oi.apart ops ok = true := fun k ok hk hki hun hno => by
        refine hfree k ok hk hki ?_ hno
        by_cases hjk : j = k
        · subst hjk; exact hjun
        · rw [getD_set_ne true hjk] at hun; exact hun
      refine wpOp_mono (fun a' w' h3 => ih (listed.setIfInBounds j true) a' w' hfree' (ready_mono hr (Ne.symm hji)) h3.1 ?_) h2
      rw [Array.setIfInBounds_comm _ _ hji]
      exact h3.2
section rules
variable {n : Nat} {D : List Deferred} {w0 : World} {S : List Nat} {L : Slots} {H Hc : Heap}
/-- A region that draws, so much of it done. -/
def Wd (P : Program) (Q : Exit → Act → World → Prop) (n : Nat) (D : List Deferred) (w0 : World) (S : List Nat) (ops : Array Oper) (Hc : Heap) (fuel : Nat) (listed : Array Bool) (L : Slots) (H : Heap) : Prop :=
  ∀ a w, Env n D L a → Hp w0 S H w → wpC P ops (Hp w0 S Hc) Q fuel listed a w
def Wo (P : Program) (Q : Exit → Act → World → Prop) (n : Nat) (D : List Deferred) (w0 : World) (S : List Nat) (ops : Array Oper) (Hc : Heap) (fuel : Nat) (listed : Array Bool) (i : Nat) (L : Slots) (H : Heap) : Prop :=
  ∀ a w, Env n D L a → Hp w0 S H w → wpOp P ops Q i (wpC P ops (Hp w0 S Hc) Q fuel (listed.setIfInBounds i true)) a w
theorem c_draw (Hc : Heap) {id : Nat} {l : List Oper} {k : Nat} (hm : P.follows .mixedOrders = true) (hk : l.length = k) (h : Wd P Q n D w0 S l.toArray Hc k (Array.replicate k false) L H) : Wc P Q n D w0 S (.region id l.toArray true) L H := by
  intro a w ha hw
  subst hk
  have := h a _ ha hw.drew
  exact wp_region_any hm (by simpa using wpAny_of_wpC _ _ _ _ this)
theorem c_drawH {id : Nat} {l : List Oper} {k : Nat} (hm : P.follows .mixedOrders = true) (hk : l.length = k) (h : Wd P Q n D w0 S l.toArray H k (Array.replicate k false) L H) : Wc P Q n D w0 S (.region id l.toArray true) L H := c_draw H hm hk h
theorem d_end {fuel : Nat} {listed : Array Bool} (hr : Region.ready .any ops listed = []) (hC : SubH Hc H) (h : Wq Q n D w0 S .normal L H) : Wd P Q n D w0 S ops Hc fuel listed L H := by
  intro a w ha hw
  cases fuel with
  | zero => exact ⟨hw.sub hC, hr, h a w ha hw⟩
  | succ k => exact ⟨hw.sub hC, fun _ => h a w ha hw, fun i hi => by rw [hr] at hi; cases hi⟩
theorem d_ready {fuel : Nat} {listed : Array Bool} {i : Nat} {rs : List Nat} (hr : Region.ready .any ops listed = i :: rs) (hC : SubH Hc H) (h : ∀ j ∈ i :: rs, Wo P Q n D w0 S ops Hc fuel listed j L H) : Wd P Q n D w0 S ops Hc (fuel + 1) listed L H := by
  intro a w ha hw
  refine ⟨hw.sub hC, fun he => absurd (hr.symm.trans he) (by simp), fun j hj => ?_⟩
  rw [hr] at hj
  exact h j hj a w ha hw
theorem m0 {b : Blk} {H : Heap} : b ∈ b :: H := .head _
theorem m1 {x b : Blk} {H : Heap} : b ∈ x :: b :: H := .tail _ m0
theorem m2 {x y b : Blk} {H : Heap} : b ∈ x :: y :: b :: H := .tail _ m1
theorem m3 {x y z b : Blk} {H : Heap} : b ∈ x :: y :: z :: b :: H := .tail _ m2
theorem m4 {x y z u b : Blk} {H : Heap} : b ∈ x :: y :: z :: u :: b :: H := .tail _ m3
theorem m5 {x y z u v b : Blk} {H : Heap} : b ∈ x :: y :: z :: u :: v :: b :: H := .tail _ m4
theorem m6 {x y z u v t b : Blk} {H : Heap} : b ∈ x :: y :: z :: u :: v :: t :: b :: H := .tail _ m5
theorem m7 {x y z u v t s b : Blk} {H : Heap} : b ∈ x :: y :: z :: u :: v :: t :: s :: b :: H := .tail _ m6
theorem fit64 {z : Int} (h1 : -9223372036854775808 ≤ z) (h2 : z ≤ 9223372036854775807) : Value.int .i64 (IntKind.i64.wrap z) = .int .i64 z := by
  rw [IntWalk.i64_in z ⟨h1, h2⟩]
theorem wrap32_in {z : Int} (h1 : -2147483648 ≤ z) (h2 : z ≤ 2147483647) : IntKind.i32.wrap z = z := by
  unfold IntKind.wrap
  simp [IntKind.signed, IntKind.bits]
  omega
theorem fit32 {z : Int} (h1 : -2147483648 ≤ z) (h2 : z ≤ 2147483647) : Value.int .i32 (IntKind.i32.wrap z) = .int .i32 z := by rw [wrap32_in h1 h2]
theorem fitN {z : Int} {m : Nat} (h : z = m) (h2 : m ≤ 9223372036854775807) : Value.int .i64 (IntKind.i64.wrap z) = .int .i64 (m : Int) := by subst h; exact fit64 (by omega) (by omega)
theorem slV_one (sv : Sv) (m : Nat) : (slV sv m).oneCell' = true := by cases sv <;> rfl
theorem slV_cells (sv : Sv) (m : Nat) : (slV sv m).cells = #[slV sv m] := by cases sv <;> rfl
theorem all_one {p : Nat → Prop} {i : Nat} (h : p i) : ∀ j ∈ [i], p j := by simpa using h
theorem all_cons {p : Nat → Prop} {i j : Nat} {r : List Nat} (h : p i) (h2 : ∀ k ∈ j :: r, p k) : ∀ k ∈ i :: j :: r, p k := by
  intro k hk
  rcases List.mem_cons.1 hk with rfl | hk
  · exact h
  · exact h2 k hk
theorem o_gives {fuel : Nat} {listed : Array Bool} {i d : Nat} {o : Oper} (hi : ops[i]? = some o) (hd : o.dst = some d) (hg : o.guard = none) {ι : Type} {φ : ι → Prop} {v : ι → Value} {H' : ι → Heap} (hr : Gives P n D w0 S o L H φ v H') (hn : Nat.blt d n = true)
    (h : ∀ x, φ x → Wd P Q n D w0 S ops Hc fuel (listed.setIfInBounds i true) ((d, v x) :: L) (H' x)) : Wo P Q n D w0 S ops Hc fuel listed i L H := by
  intro a w ha hw
  unfold wpOp
  simp only [hi]
  rw [if_pos (by simp [Region.wanted, hg])]
  left
  obtain ⟨x, w', hφ, hrun, hH⟩ := hr a w ha hw
  unfold Oper.wp
  rcases hrun with hrun | ⟨hrun, hv⟩
  · rw [hrun, Oper.upon_value, hd]
    exact h x hφ _ _ (ha.put hn _) hH
  · rw [hrun, Oper.upon_skip, hd, ← hv]
    exact h x hφ _ _ (ha.put hn _) hH
theorem o_does {fuel : Nat} {listed : Array Bool} {i : Nat} {o : Oper} (hi : ops[i]? = some o) (hd : o.dst = none) (hg : o.guard = none) {ι : Type} {φ : ι → Prop} {v : ι → Value} {H' : ι → Heap} (hr : Gives P n D w0 S o L H φ v H')
    (h : ∀ x, φ x → Wd P Q n D w0 S ops Hc fuel (listed.setIfInBounds i true) L (H' x)) : Wo P Q n D w0 S ops Hc fuel listed i L H := by
  intro a w ha hw
  unfold wpOp
  simp only [hi]
  rw [if_pos (by simp [Region.wanted, hg])]
  left
  obtain ⟨x, w', hφ, hrun, hH⟩ := hr a w ha hw
  unfold Oper.wp
  rcases hrun with hrun | ⟨hrun, hv⟩
  · rw [hrun, Oper.upon_value, hd]
    exact h x hφ _ _ ha hH
  · rw [hrun, Oper.upon_skip, hd]
    exact h x hφ _ _ ha hH
theorem o_call {fuel : Nat} {listed : Array Bool} {i f : Nat} {args : Array Operand} {tys : Array TypeId} {vals : List Value} {ι : Type} {φ : ι → Prop} {vv : ι → Value} {H' : ι → Heap} {dst : Nat} {ty : TypeId} {pos : String} {af : Array Edge} {gd : Option (Nat × Bool)}
    (hi : ops[i]? = some ⟨some dst, .call { callee := .value (.func f), args, argTypes := tys }, ty, pos, af, gd⟩) (hg : ∀ a, Env n D L a → Region.wanted ⟨some dst, .call { callee := .value (.func f), args, argTypes := tys }, ty, pos, af, gd⟩ (yielded ops a.tmps) = true)
    (hok : callOk P f = true) (hargs : evs L args.toList = some vals) (hn : Nat.blt dst n = true) (hc : ∀ w, Hp w0 S H w → Calls P f vals.toArray w (Out w0 S φ vv H'))
    (h : ∀ y, φ y → Wd P Q n D w0 S ops Hc fuel (listed.setIfInBounds i true) ((dst, vv y) :: L) (H' y)) : Wo P Q n D w0 S ops Hc fuel listed i L H := by
  intro a w ha hw
  unfold wpOp
  simp only [hi]
  rw [if_pos (hg a ha)]
  left
  unfold Oper.wp
  rw [run_call hok rfl hargs ha w, Oper.upon_enter]
  refine (by simpa using hc w hw : Calls P f (#[] ++ vals.toArray ++ #[]) w (Out w0 S φ vv H')).mono fun e w' he => ?_
  obtain ⟨y, hy, rfl, hH⟩ := he
  exact h y hy _ _ (ha.put hn _) hH
theorem no_guard {o : Oper} (hg : o.guard = none) : ∀ a, Env n D L a → Region.wanted o (yielded ops a.tmps) = true := fun a _ => by simp [Region.wanted, hg]
theorem is_wanted {o : Oper} {j : Nat} {want : Bool} {t : Nat} (hg : o.guard = some (j, want)) (hj : (ops[j]?).bind (·.dst) = some t) (hb : get L t = some (.bool want)) : ∀ a, Env n D L a → Region.wanted o (yielded ops a.tmps) = true := by
  intro a ha
  unfold Region.wanted yielded
  rw [hg]
  simp [hj, ha.get t _ hb]
theorem is_not {o : Oper} {j : Nat} {want b : Bool} {t : Nat} (hg : o.guard = some (j, want)) (hj : (ops[j]?).bind (·.dst) = some t) (hb : get L t = some (.bool b)) (hne : b = !want) : ∀ a, Env n D L a → Region.wanted o (yielded ops a.tmps) = false := by
  intro a ha
  unfold Region.wanted yielded
  rw [hg]
  simp [hj, ha.get t _ hb, hne]
theorem d_calm {fuel : Nat} {listed : Array Bool} {i : Nat} {o : Oper} {v : Value} {L' : Slots} (hi : ops[i]? = some o) (hs : Region.noSelect ops = true) (hf : Region.free .any ops listed i = true) (hr : (Region.ready .any ops listed).contains i = true)
    (hQ : ∀ c a w, Q (.panic c) (a.put o.dst v) w → Q (.panic c) a w) (hy : ∀ a, Env n D L a → Calm P ops (Hp w0 S Hc) o v a) (hp : ∀ a, Env n D L a → Env n D L' (a.put o.dst v))
    (h : Wd P Q n D w0 S ops Hc fuel (listed.setIfInBounds i true) L' H) : Wd P Q n D w0 S ops Hc (fuel + 1) listed L H := by
  intro a w ha hw
  exact wpC_first hi (Region.noSelect_spec hs) hQ fuel listed a w (Region.free_spec hi hf) (List.contains_iff_mem.1 hr) (hy a ha) (h _ _ (hp a ha) hw)
theorem d_val {fuel : Nat} {listed : Array Bool} {i d : Nat} {o : Oper} {v : Value} (hi : ops[i]? = some o) (hs : Region.noSelect ops = true) (hf : Region.free .any ops listed i = true) (hr : (Region.ready .any ops listed).contains i = true)
    (hy : Yields P n D w0 S o L Hc v) (hd : o.dst = some d) (hg : ∀ a, Env n D L a → Region.wanted o (yielded ops a.tmps) = true) (hn : Nat.blt d n = true) (hQ : ∀ c a w, Q (.panic c) (a.put o.dst v) w → Q (.panic c) a w)
    (h : Wd P Q n D w0 S ops Hc fuel (listed.setIfInBounds i true) ((d, v) :: L) H) : Wd P Q n D w0 S ops Hc (fuel + 1) listed L H :=
  d_calm hi hs hf hr hQ (fun a ha => .inl ⟨hg a ha, fun w hw => .inl (hy a w ha hw)⟩) (fun a ha => by rw [hd]; exact ha.put hn v) h
theorem d_skip {fuel : Nat} {listed : Array Bool} {i d : Nat} {o : Oper} (hi : ops[i]? = some o) (hs : Region.noSelect ops = true) (hf : Region.free .any ops listed i = true) (hr : (Region.ready .any ops listed).contains i = true)
    (hd : o.dst = some d) (hg : ∀ a, Env n D L a → Region.wanted o (yielded ops a.tmps) = false) (hn : Nat.blt d n = true) (hQ : ∀ c a w, Q (.panic c) (a.put o.dst undef) w → Q (.panic c) a w)
    (h : Wd P Q n D w0 S ops Hc fuel (listed.setIfInBounds i true) ((d, undef) :: L) H) : Wd P Q n D w0 S ops Hc (fuel + 1) listed L H :=
  d_calm hi hs hf hr hQ (fun a ha => .inr ⟨hg a ha, rfl⟩) (fun a ha => by rw [hd]; exact ha.put hn _) h
theorem d_split {fuel : Nat} {listed : Array Bool} {t : Nat} {b : Bool} (hb : get L t = some (.bool b)) (ht : b = true → Wd P Q n D w0 S ops Hc fuel listed ((t, .bool true) :: L) H) (hf : b = false → Wd P Q n D w0 S ops Hc fuel listed ((t, .bool false) :: L) H) : Wd P Q n D w0 S ops Hc fuel listed L H := by
  intro a w ha hw
  have key : ∀ c, b = c → Env n D ((t, .bool c) :: L) a := by
    intro c hc
    refine ⟨ha.size, ha.defers, fun u v hu => ?_⟩
    simp only [Eng.get] at hu
    cases hq : Nat.beq u t with
    | true =>
      rw [hq] at hu
      simp only [cond_true, Option.some.injEq] at hu
      have : u = t := Nat.eq_of_beq_eq_true hq
      subst this; subst hu; subst hc
      exact ha.get _ _ hb
    | false => rw [hq] at hu; exact ha.get u v hu
  cases hbb : b with
  | true => exact ht hbb a w (key _ hbb) hw
  | false => exact hf hbb a w (key _ hbb) hw
end rules
end draws
/- MORE OPERATIONS -/
section more
variable {P : Program} {n : Nat} {D : List Deferred} {w0 : World} {S : List Nat} {L : Slots} {H : Heap}
variable {d : Option Tmp} {ty : TypeId} {pos : String} {af : Array Edge} {gd : Option (Nat × Bool)}
/-- A slice literal whose elements are all told, in order. -/
def inOrder : Nat → List (Nat × Operand) → Bool
  | _, [] => true
  | i, (j, _) :: r => Nat.beq i j && inOrder (i + 1) r
theorem fill_order (sz : Nat) : ∀ (vs : List Value) (i : Nat) (cs : List Value), (∀ v ∈ vs, v.cells.size = sz) → cs.length = (i + vs.length) * sz →
    Instr.fill (fun i => some (i * sz, sz)) cs.toArray ((vs.zipIdx i).map fun x => (x.2, x.1)) = some (cs.take (i * sz) ++ vs.flatMap fun v => v.cells.toList).toArray := by
  intro vs
  induction vs with
  | nil =>
    intro i cs _ hl
    simp only [List.length_nil, Nat.add_zero] at hl
    simp [Instr.fill, ← hl]
  | cons v vs ih =>
    intro i cs h1 hl
    have hv := h1 v (by simp)
    simp only [List.zipIdx_cons, List.map_cons, Instr.fill]
    simp only [List.length_cons] at hl
    have hle : i * sz + sz ≤ cs.length := by
      rw [hl, ← Nat.succ_mul]
      exact Nat.mul_le_mul_right _ (by omega)
    rw [if_neg (by simp [hv]; omega)]
    have hf := foldl_set v.cells.toList 0 (i * sz) cs (by simpa [hv] using hle)
    simp only [Nat.add_zero, Array.length_toList, hv] at hf
    have he : Array.foldl (fun cs x => cs.setIfInBounds (i * sz + x.2) x.1) cs.toArray v.cells.zipIdx = (cs.take (i * sz) ++ v.cells.toList ++ cs.drop (i * sz + sz)).toArray := by
      rw [← Array.foldl_toList, Array.toList_zipIdx]
      exact hf
    have hrec := ih (i + 1) (cs.take (i * sz) ++ v.cells.toList ++ cs.drop (i * sz + sz)) (fun u hu => h1 u (by simp [hu])) (by
      simp only [List.length_append, List.length_take, List.length_drop, Array.length_toList, hv]
      have : (i + 1 + vs.length) * sz = (i + (vs.length + 1)) * sz := by congr 1; omega
      omega)
    have ht : (cs.take (i * sz) ++ v.cells.toList ++ cs.drop (i * sz + sz)).take ((i + 1) * sz) = cs.take (i * sz) ++ v.cells.toList := by
      have : (i + 1) * sz = (cs.take (i * sz) ++ v.cells.toList).length := by
        simp only [List.length_append, List.length_take, Array.length_toList, hv, Nat.succ_mul]; omega
      rw [this]; exact List.take_left
    rw [ht] at hrec
    simp only [List.flatMap_cons, ← List.append_assoc]
    rw [← hrec, ← he]
theorem evs_map {a : Act} (ha : Env n D L a) : ∀ (ps : List (Nat × Operand)) (i : Nat) (vs : List Value), inOrder i ps = true → evs L (ps.map (·.2)) = some vs →
    (ps.map fun p => (p.1, a.eval p.2)) = (vs.zipIdx i).map fun x => (x.2, x.1) := by
  intro ps
  induction ps with
  | nil => intro i vs _ h; simp [evs] at h; simp [h]
  | cons p r ih =>
    intro i vs ho h
    obtain ⟨j, x⟩ := p
    simp only [inOrder, Bool.and_eq_true] at ho
    have hij := Nat.eq_of_beq_eq_true ho.1
    subst hij
    simp only [List.map_cons, evs] at h
    cases hx : ev L x with
    | none => rw [hx] at h; cases h
    | some v =>
      rw [hx] at h
      simp only at h
      cases hr : evs L (r.map (·.2)) with
      | none => rw [hr] at h; cases h
      | some us =>
        rw [hr] at h
        simp only [Option.some.injEq] at h
        subst h
        simp [ha.ev_eq hx, ih (i + 1) us ho.2 hr]
theorem g_buildSlice {t e sz len : Nat} {parts : Array (Nat × Operand)} {vs : List Value} {z : List Value} {cs : List Value} (ht : isSl P t = some e) (hs : szOf P e = some sz) (hz : zeroC P e = some z) (hzl : z.length = sz)
    (ho : inOrder 0 parts.toList = true) (hv : evs L (parts.toList.map (·.2)) = some vs) (hlen : vs.length = len) (hsz : ∀ v ∈ vs, v.cells.size = sz) (hcs : (vs.flatMap fun v => v.cells.toList) = cs) (hbig : Nat.ble (len * sz) 16777216 = true) :
    Gives P n D w0 S ⟨d, .buildSlice t len parts, ty, pos, af, gd⟩ L H (fun g => w0.heap.size ≤ g) (fun g => .slice (some ⟨g, 0, none⟩) len len) (fun g => (g, cs, e) :: H) := by
  intro a w ha hw
  refine ⟨w.heap.size, _, hw.size, .inl ?_, hw.alloc cs e⟩
  subst hcs; subst hlen; subst hzl
  unfold szOf at hs
  unfold zeroC at hz
  cases hi : P.info? e with
  | none => rw [hi] at hs; cases hs
  | some inf =>
    rw [hi] at hs hz
    simp only [Option.map_some, Option.some.injEq, Option.bind_some] at hs hz
    cases hzz : inf.zero with
    | none => simp [hzz] at hz
    | some zv =>
      simp only [hzz, Option.map_some, Option.some.injEq] at hz
      have hbig' : ¬ (vs.length * inf.size > 2 ^ 24) := by
        have := Nat.le_of_ble_eq_true hbig
        rw [hs]
        omega
      have hp : (parts.map fun p => (p.1, a.eval p.2)).toList = (vs.zipIdx 0).map fun x => (x.2, x.1) := by
        rw [Array.toList_map]; exact evs_map ha _ 0 _ ho hv
      have hfill : ∀ cells : Array Value, cells.size = vs.length * inf.size → Instr.fill (fun i => some (i * inf.size, inf.size)) cells ((vs.zipIdx 0).map fun x => (x.2, x.1)) = some (vs.flatMap fun v => v.cells.toList).toArray := by
        intro cells hc
        have := fill_order inf.size vs 0 cells.toList (fun v hv => by rw [hs]; exact hsz v hv) (by simpa using hc)
        simpa using this
      have hrun : (Instr.buildSlice t vs.length (parts.map fun p => (p.1, a.eval p.2))).run P w = .ok (.slice (some ⟨w.heap.size, 0, none⟩) vs.length vs.length) (w.alloc (.cells (vs.flatMap fun v => v.cells.toList).toArray e)) := by
        unfold Instr.buildSlice
        simp only [Sem.run_bind, run_underlying (isSl_eq ht), Result.andThen_ok, sizeOf, typeInfo, run_program, hi, Sem.run_pure]
        rw [if_neg hbig']
        by_cases h0 : vs.length * inf.size = 0
        · simp only [Sem.run_bind, Sem.run_pure, Result.andThen_ok, h0, if_true, hp]
          rw [hfill _ (by simp [h0])]
          simp [newRow]
        · simp only [Sem.run_bind, Sem.run_pure, Result.andThen_ok, h0, if_false, hp, zeroValue, typeInfo, run_program, hi, hzz]
          rw [hfill _ (by simp)]
          simp [newRow]
      simp only [execOp, Sem.run_bind, hrun, Result.andThen_ok, Sem.run_pure]
theorem y_lenSv {t e : TypeId} {x : Operand} {sv : Sv} {m : Nat} (ht : isSl P t = some e) (hx : ev L x = some (slV sv m)) (hn : sv = none → m = 0) :
    Yields P n D w0 S ⟨d, .call { callee := .builtin .len, args := #[x], argTypes := #[t] }, ty, pos, af, gd⟩ L H (.int .i64 m) := by
  cases sv with
  | none => have h0 := hn rfl; subst h0; exact y_len ht hx
  | some q => exact y_len ht hx
theorem slOk.nil {sv : Sv} {m sz : Nat} {xs : List Value} (h : slOk sv m sz xs) : sv = none → m = 0 := by intro he; subst he; exact h.2
/-- max and min of two whole numbers. -/
theorem y_max {t u : TypeId} {x y : Operand} {k : IntKind} {i j : Int} (hx : ev L x = some (.int k i)) (hy : ev L y = some (.int k j)) :
    Yields P n D w0 S ⟨d, .call { callee := .builtin .max, args := #[x, y], argTypes := #[t, u] }, ty, pos, af, gd⟩ L H (.int k (max i j)) := by
  intro a w ha hw
  have : (if i < j then j else i) = max i j := by rw [Int.max_def]; split <;> split <;> omega
  simp [execOp, resolve, invoke, builtin, ha.ev_eq hx, ha.ev_eq hy, Builtin.max_, Builtin.max2, this]
theorem SubH.refl : ∀ {H : Heap}, SubH H H := by
  intro H
  induction H with
  | nil => exact trivial
  | cons b H ih => exact ⟨H, .here, ih⟩
theorem Rem.left : ∀ {H H1 T : Heap} {b : Blk}, Rem H b H1 → Rem (H ++ T) b (H1 ++ T) := by
  intro H
  induction H with
  | nil => intro H1 T b h; exact h.elim
  | cons x H ih =>
    intro H1 T b h
    rcases h with ⟨rfl, rfl⟩ | ⟨H2, rfl, h⟩
    · exact .here
    · exact .there (ih h)
theorem SubH.left : ∀ {A H T : Heap}, SubH A H → SubH A (H ++ T) := by
  intro A
  induction A with
  | nil => intro H T _; exact trivial
  | cons b A ih =>
    intro H T h
    obtain ⟨H1, hr, h2⟩ := h
    exact ⟨H1 ++ T, hr.left, ih h2⟩
theorem SubH.skip : ∀ {A H : Heap} {y : Blk}, SubH A H → SubH A (y :: H) := by
  intro A
  induction A with
  | nil => intro H y _; exact trivial
  | cons b A ih =>
    intro H y h
    obtain ⟨H1, hr, h2⟩ := h
    exact ⟨y :: H1, .there hr, ih h2⟩
theorem SubH.right {T : Heap} : ∀ {A : Heap}, SubH T (A ++ T) := by
  intro A
  induction A with
  | nil => exact .refl
  | cons x A ih => exact .skip ih
/-- Blocks taken out one by one, and what is left. -/
def Rems : Heap → Heap → Heap → Prop
  | H, [], Hr => H = Hr
  | H, b :: H1, Hr => ∃ H2, Rem H b H2 ∧ Rems H2 H1 Hr
theorem Rems.nil {H : Heap} : Rems H [] H := rfl
theorem Rems.cons {b : Blk} {H H2 H1 Hr : Heap} (h : Rem H b H2) (h' : Rems H2 H1 Hr) : Rems H (b :: H1) Hr := ⟨H2, h, h'⟩
theorem Rems.all {H : Heap} : Rems H H [] := by
  induction H with
  | nil => rfl
  | cons b H ih => exact ⟨H, .here, ih⟩
theorem Rems.tail {T Hr : Heap} : Rems (T ++ Hr) T Hr := by
  induction T with
  | nil => rfl
  | cons b T ih => exact ⟨T ++ Hr, .here, ih⟩
theorem Rems.perm : ∀ {H1 H Hr : Heap}, Rems H H1 Hr → H.Perm (H1 ++ Hr) := by
  intro H1
  induction H1 with
  | nil => intro H Hr h; cases h; exact .refl _
  | cons b H1 ih =>
    intro H Hr h
    obtain ⟨H2, hr, h2⟩ := h
    exact hr.perm.trans (List.Perm.cons _ (ih h2))
theorem Hp.self {w : World} {H1 : Heap} (h : Hp w0 S (H1 ++ H) w) : Hp w (H1.map (·.1)) H1 w :=
  ⟨rfl, rfl, rfl, Nat.le_refl _, fun _ _ _ => rfl, fun g cs e hm => ⟨(h.blk g cs e (List.mem_append.2 (.inl hm))).1, .inl (List.mem_map.2 ⟨_, hm, rfl⟩)⟩, (List.pairwise_append.1 h.nd).1⟩
/-- The append, the rest of the memory ahead. -/
theorem g_appendT {t e : TypeId} {x y : Operand} {sv : Sv} {m sz by_ : Nat} {xs : List Value} {gy ky : Nat} {cy : Nat} {news sy : List Value} {ey : TypeId} (A : Heap) {z : Value} {inf : TypeInfo}
    (ht : isSl P t = some e) (hinf : P.info? e = some inf) (hz : inf.zero = some z) (hsz : inf.size = sz) (hby : inf.bytes = by_) (hzs : z.cells.size = sz) (hpos : 0 < sz)
    (hx : ev L x = some (slV sv m)) (hy : ev L y = some (.slice (some ⟨gy, 0, none⟩) ky cy)) (hok : slOk sv m sz xs)
    (hH : A ++ slH sv xs e = H) (hmy : (gy, news ++ sy, ey) ∈ H) (hly : news.length = ky * sz) (h1 : ∀ u ∈ news, u.oneCell' = true) (h63 : m + ky ≤ maxLen) (hbytes : (m + ky) * by_ ≤ 140737488355328) :
    Gives P n D w0 S ⟨d, .call { callee := .builtin .append, args := #[x, y], argTypes := #[t, t] }, ty, pos, af, gd⟩ L H
      (fun sv' : Sv => slOk sv' (m + ky) sz (xs ++ news)) (fun sv' => slV sv' (m + ky)) (fun sv' => A ++ slH sv' (xs ++ news) e) := by
  intro a w ha hw
  obtain ⟨sv', w', hok', hrun, hH'⟩ := g_append (d := d) (ty := ty) (pos := pos) (af := af) (gd := gd) (Hr := A) ht hinf hz hsz hby hzs hpos hx hy hok (by rw [← hH]; exact List.perm_append_comm) hmy hly h1 h63 hbytes a w ha hw
  exact ⟨sv', w', hok', hrun, hH'.perm List.perm_append_comm⟩
section
variable {S : List Nat} {L : Slots} {H : Heap} {d : Option Tmp} {ty : TypeId} {pos : String} {af : Array Edge} {gd : Option (Nat × Bool)}
end
/-- A struct literal whose parts are single cells. -/
def fill1 (n : Nat) (ps : List (Nat × Nat)) : List Value → List (Nat × List Value) → Option (List Value)
  | cs, [] => some cs
  | cs, (i, [v]) :: r =>
    match ps[i]? with
    | some (off, size) => bif Nat.beq size 1 && Nat.blt off n then fill1 n ps (cs.set off v) r else none
    | none => none
  | _, _ => none
theorem fill1_eq (n : Nat) (ps : List (Nat × Nat)) : ∀ (parts : List (Nat × List Value)) (cs out : List Value), cs.length = n → fill1 n ps cs parts = some out → fillL ps cs parts = some out := by
  intro parts
  induction parts with
  | nil => intro cs out _ h; simpa [fill1, fillL] using h
  | cons p r ih =>
    intro cs out hl h
    obtain ⟨i, vs⟩ := p
    match vs, h with
    | [v], h =>
      simp only [fill1] at h
      simp only [fillL]
      cases hp : ps[i]? with
      | none => rw [hp] at h; cases h
      | some x =>
        obtain ⟨off, size⟩ := x
        rw [hp] at h
        simp only at h ⊢
        cases hb : (Nat.beq size 1 && Nat.blt off n) with
        | false => rw [hb] at h; cases h
        | true =>
          rw [hb] at h
          simp only [cond_true] at h
          simp only [Bool.and_eq_true] at hb
          have h1 := Nat.eq_of_beq_eq_true hb.1
          have h2 : off < n := Nat.le_of_ble_eq_true hb.2
          subst h1
          have e1 : Nat.beq ([v] : List Value).length 1 = true := rfl
          have e2 : Nat.ble (off + ([v] : List Value).length) cs.length = true := Nat.ble_eq_true_of_le (by rw [hl]; exact h2)
          rw [e1, e2]
          simp only [Bool.and_self, cond_true]
          rw [splice_one _ _ _ (by rw [hl]; exact h2)]
          exact ih _ _ (by rw [List.length_set]; exact hl) h
    | [], h => simp [fill1] at h
    | _ :: _ :: _, h => simp [fill1] at h
theorem y_build1 {S : List Nat} {L : Slots} {H : Heap} {d : Option Tmp} {ty : TypeId} {pos : String} {af : Array Edge} {gd : Option (Nat × Bool)} {t m : Nat} {parts : Array (Nat × Operand)} {zs : List Value} {ps : List (Nat × Nat)} {vs : List (Nat × List Value)} {out : List Value}
    (hp : bPlan P t = some (zs, ps)) (hl : zs.length = m) (hv : evP L parts.toList = some vs) (ho : fill1 m ps zs vs = some out) :
    Yields P n D w0 S ⟨d, .build t parts, ty, pos, af, gd⟩ L H (.agg out.toArray) := y_build hp hv (fill1_eq _ _ _ _ _ hl ho)
theorem y_maxE {S : List Nat} {L : Slots} {H : Heap} {d : Option Tmp} {ty : TypeId} {pos : String} {af : Array Edge} {gd : Option (Nat × Bool)} {t u : TypeId} {x y : Operand} {k : IntKind} {i j : Int} {v : Value} (hx : ev L x = some (.int k i)) (hy : ev L y = some (.int k j)) (hv : Value.int k (max i j) = v) :
    Yields P n D w0 S ⟨d, .call { callee := .builtin .max, args := #[x, y], argTypes := #[t, u] }, ty, pos, af, gd⟩ L H v := by subst hv; exact y_max hx hy
theorem out_new {f : Nat} {args : Array Value} {ι : Type} {φ : ι → Prop} {vv : ι → Value} {H2 : ι → Heap}
    (hc : ∀ w, Hp w0 S H w → Calls P f args w (Out w [] φ vv H2)) : ∀ w, Hp w0 S H w → Calls P f args w (Out w0 S φ vv (fun x => H ++ H2 x)) :=
  fun w hw => (out_frame0 hw (hc w hw)).mono fun _ _ ⟨x, hx, he, hH⟩ => ⟨x, hx, he, hH.perm List.perm_append_comm⟩
end more
section
variable {P : Program} {Q : Exit → Act → World → Prop} {n : Nat} {D : List Deferred} {w0 : World}
variable {S : List Nat} {L : Slots} {H H' : Heap}
theorem l_perm {ops : Array Oper} {l : List Oper} (hp : H.Perm H') (h : Wl P Q n D w0 S ops l L H') : Wl P Q n D w0 S ops l L H := fun a w ha hw => h a w ha (hw.perm hp)
theorem c_perm {c : Code} (hp : H.Perm H') (h : Wc P Q n D w0 S c L H') : Wc P Q n D w0 S c L H := fun a w ha hw => h a w ha (hw.perm hp)
theorem q_perm {e : Exit} (hp : H.Perm H') (h : Wq Q n D w0 S e L H') : Wq Q n D w0 S e L H := fun a w ha hw => h a w ha (hw.perm hp)
end
section
variable {P : Program} {n : Nat} {D : List Deferred} {w0 : World} {S : List Nat}
theorem out_head {f : Nat} {args : Array Value} {ι : Type} {φ : ι → Prop} {vv : ι → Value} {H1 R : Heap} {H2 : ι → Heap}
    (hc : ∀ w, Hp w0 S H1 w → Hp w (H1.map (·.1)) H1 w → Calls P f args w (Out w (H1.map (·.1)) φ vv H2)) : ∀ w, Hp w0 S (H1 ++ R) w → Calls P f args w (Out w0 S φ vv (fun x => H2 x ++ R)) :=
  fun w hw => out_frame hw (.refl _) (hc w hw.appendL hw.self)
theorem out_all {f : Nat} {args : Array Value} {ι : Type} {φ : ι → Prop} {vv : ι → Value} {H1 : Heap} {H2 : ι → Heap}
    (hc : ∀ w, Hp w0 S H1 w → Hp w (H1.map (·.1)) H1 w → Calls P f args w (Out w (H1.map (·.1)) φ vv H2)) : ∀ w, Hp w0 S H1 w → Calls P f args w (Out w0 S φ vv H2) := by
  intro w hw
  have h := out_head (R := []) hc w (by rw [List.append_nil]; exact hw)
  simpa only [List.append_nil] using h
end
end Go.Eng
namespace Go.Eng
open Go
section
variable {P : Program} {Q : Exit → Act → World → Prop} {n : Nat} {D : List Deferred} {w0 : World} {S : List Nat} {L : Slots} {H : Heap} {ops : Array Oper} {rest : List Oper}
variable {PE : List PanicEntry → Prop}
/-- What is left over, if the code panics with such a chain. -/
def Pq (PE : List PanicEntry → Prop) (Q : Exit → Act → World → Prop) (n : Nat) (D : List Deferred) (w0 : World) (S : List Nat) : Prop := ∀ c, PE c → Wq Q n D w0 S (.panic c) [] []
theorem Pq.at (h : Pq PE Q n D w0 S) {c : List PanicEntry} (hc : PE c) : Wq Q n D w0 S (.panic c) L H := fun a w ha hw => h c hc a w (ha.sub trivial) (hw.sub trivial)
def OutP {ι : Type} (w : World) (S : List Nat) (φ : ι → Prop) (v : ι → Value) (H : ι → Heap) (PE : List PanicEntry → Prop) (e : Ending) (w' : World) : Prop := Out w S φ v H e w' ∨ ∃ c, PE c ∧ e = .panicked c ∧ Hp w S [] w'
theorem bodyP {fn : Func} {R : Ending → World → Prop} (h : ∀ c w, PE c → Hp w0 S [] w → R (.panicked c) w) : Pq PE (bodyPost P fn R) n [] w0 S := fun c hc _ w ha hw => ⟨ha.defers, h c w hc hw⟩
theorem bodyP_out {fn : Func} {ι : Type} {φ : ι → Prop} {v : ι → Value} {H' : ι → Heap} : Pq PE (bodyPost P fn (OutP w0 S φ v H' PE)) n [] w0 S := bodyP fun c _ hc hw => .inr ⟨c, hc, rfl, hw⟩
theorem out_endP {ι : Type} {φ : ι → Prop} {v : ι → Value} {H' : ι → Heap} {u : Value} (x : ι) (hφ : φ x) (hv : u = v x) (hH : SubH (H' x) H) : ∀ w, Hp w0 S H w → OutP w0 S φ v H' PE (.returned u) w :=
  fun w hw => .inl (out_end x hφ hv hH w hw)
theorem out_frameP {f : Nat} {args : Array Value} {ι : Type} {φ : ι → Prop} {vv : ι → Value} {H1 Hr : Heap} {H2 : ι → Heap} {w : World} (hw : Hp w0 S H w) (hp : H.Perm (H1 ++ Hr))
    (hc : Calls P f args w (OutP w (H1.map (·.1)) φ vv H2 PE)) : Calls P f args w (OutP w0 S φ vv (fun x => H2 x ++ Hr) PE) := by
  refine hc.mono fun e w' h => ?_
  rcases h with ⟨x, hx, he, hH⟩ | ⟨c, hc', he, hH⟩
  · exact .inl ⟨x, hx, he, (hw.perm hp).frameLike hH⟩
  · exact .inr ⟨c, hc', he, ((hw.perm hp).frameLike hH).sub trivial⟩
theorem out_newP {f : Nat} {args : Array Value} {ι : Type} {φ : ι → Prop} {vv : ι → Value} {H2 : ι → Heap}
    (hc : ∀ w, Hp w0 S H w → Calls P f args w (OutP w [] φ vv H2 PE)) : ∀ w, Hp w0 S H w → Calls P f args w (OutP w0 S φ vv (fun x => H ++ H2 x) PE) := by
  intro w hw
  refine (out_frameP (H1 := []) (Hr := H) hw (.refl _) (hc w hw)).mono fun e w' h => ?_
  rcases h with ⟨x, hx, he, hH⟩ | h
  · exact .inl ⟨x, hx, he, hH.perm List.perm_append_comm⟩
  · exact .inr h
theorem out_headP {f : Nat} {args : Array Value} {ι : Type} {φ : ι → Prop} {vv : ι → Value} {H1 R : Heap} {H2 : ι → Heap}
    (hc : ∀ w, Hp w0 S H1 w → Hp w (H1.map (·.1)) H1 w → Calls P f args w (OutP w (H1.map (·.1)) φ vv H2 PE)) : ∀ w, Hp w0 S (H1 ++ R) w → Calls P f args w (OutP w0 S φ vv (fun x => H2 x ++ R) PE) :=
  fun w hw => out_frameP hw (.refl _) (hc w hw.appendL hw.self)
theorem out_allP {f : Nat} {args : Array Value} {ι : Type} {φ : ι → Prop} {vv : ι → Value} {H1 : Heap} {H2 : ι → Heap}
    (hc : ∀ w, Hp w0 S H1 w → Hp w (H1.map (·.1)) H1 w → Calls P f args w (OutP w (H1.map (·.1)) φ vv H2 PE)) : ∀ w, Hp w0 S H1 w → Calls P f args w (OutP w0 S φ vv H2 PE) := by
  intro w hw
  have h := out_headP (R := []) hc w (by rw [List.append_nil]; exact hw)
  simpa only [List.append_nil] using h
theorem l_callP {f : Nat} {args : Array Operand} {tys : Array TypeId} {vals : List Value} {ι : Type} {φ : ι → Prop} {vv : ι → Value} {H' : ι → Heap} {dst : Nat} {ty : TypeId} {pos : String} {af : Array Edge}
    (hP : Pq PE Q n D w0 S) (hok : callOk P f = true) (hargs : evs L args.toList = some vals) (hn : Nat.blt dst n = true) (hc : ∀ w, Hp w0 S H w → Calls P f vals.toArray w (OutP w0 S φ vv H' PE))
    (h : ∀ y, φ y → Wl P Q n D w0 S ops rest ((dst, vv y) :: L) (H' y)) :
    Wl P Q n D w0 S ops (⟨some dst, .call { callee := .value (.func f), args, argTypes := tys }, ty, pos, af, none⟩ :: rest) L H := by
  intro a w ha hw
  refine wpList_plain rfl fun K hK => ?_
  unfold Oper.wp
  rw [run_call (u := #[]) (v := #[]) hok rfl hargs ha w, Oper.upon_enter]
  have hc' : Calls P f (#[] ++ vals.toArray ++ #[]) w (OutP w0 S φ vv H' PE) := by simpa using hc w hw
  refine hc'.mono fun e w' he => ?_
  rcases he with ⟨y, hy, rfl, hH⟩ | ⟨c, hc2, rfl, hH⟩
  · exact hK _ _ (h y hy _ _ (ha.put hn _) hH)
  · exact hP c hc2 a w' (ha.sub trivial) hH
/-- 'panic(x)'. -/
theorem l_panic {x : Operand} {v : Value} {ty : TypeId} {pos : String} {af : Array Edge} (hx : ev L x = some v) (hr : ∀ w, (Instr.panic v).run P w = .halt (.panic v) w) (hP : Pq PE Q n D w0 S) (hc : PE [{ v, recovered := false }]) :
    Wl P Q n D w0 S ops (⟨none, .panic x, ty, pos, af, none⟩ :: rest) L H := by
  intro a w ha hw
  refine wpList_plain rfl fun K hK => ?_
  unfold Oper.wp
  have h1 : (execOp a.eval ⟨none, .panic x, ty, pos, af, none⟩).run P w = .halt (.panic v) w := by
    simp [execOp, ha.ev_eq hx, hr w]
  rw [h1, Oper.upon_panic]
  exact hP _ hc a w (ha.sub trivial) (hw.sub trivial)
end
end Go.Eng
