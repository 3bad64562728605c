/- Part 17 of the proof about FnCharstring. -/
import Derived.Test.YtbepljmeflndkaaGreatDoorQ16
import Derived.Test.YtbepljmeflndkaaGreatDoorQ03
namespace Go.Proofs.YtbepljmeflndkaaGreatDoor
open Go.Eng Go.Fl
section
variable {w0 w : World} {S : List Nat} {lo gl : Value} {bM bH : Nat} {z : RS}
theorem apply_mask {v : Nat} (hz : ROk w0 S lo gl z) (ho : z.c.ops + 1 < 2000) (hv : v = 19 ∨ v = 20) (hms : z.c.masked = false ∨ z.c.st = []) (hb : (bareL (-1) z.c.begun z.c.st).length % 2 = 0) (hk : ((stemC z.c.tick).stems + 7) / 8 < z.b.length) (hw : Hp w ((RH bM bH z).map (·.1)) (RH bM bH z) w) :
    Calls Tryz.prog 116 [.pointer (some ⟨bH, 0, none⟩), .pointer (some ⟨bM, 0, none⟩), .agg #[.int .u8 (v : Nat), .bool false]].toArray w (Out w ((RH bM bH z).map (·.1)) (Aft w0 S lo gl z { stemC z.c.tick with masked := true } (z.b.drop (((stemC z.c.tick).stems + 7) / 8)) z.K) (fun _ => .nilIface) (RH bM bH)) := by
  obtain ⟨l1, l2, l3, l4⟩ := hz.lens
  have hi := hz.inv.mask ho
  have hl48 := hz.inv.len
  have hh := bare_half hb
  have hst := hz.st
  have hstm : (stemC z.c.tick).stems = z.c.stems + z.c.st.length / 2 := by
    show z.c.stems + (bareL (-1) z.c.begun z.c.st).length / 2 = _
    rw [hh]
  have hso3 := hi.stems
  have hop3 := hi.ops
  obtain ⟨hB, hcl, hu⟩ := hz.by_
  obtain ⟨p, hp⟩ : ∃ p, z.A = some p := by
    cases hzb : z.b with
    | nil => rw [hzb] at hk; cases hk
    | cons u r =>
      rw [hzb] at hB
      obtain ⟨p, hp, _⟩ := hB.ptr
      exact ⟨p, hp⟩
  generalize hkk : ((stemC z.c.tick).stems + 7) / 8 = k at hk
  have hk3 : k ≤ 1000000 := by
    have h1 : (stemC z.c.tick).stems ≤ 48 * (stemC z.c.tick).ops := hso3
    have h2 : (stemC z.c.tick).ops < 2000 := hop3
    omega
  have hm := hz.m
  rw [hp] at hm hB
  have hB2 := hB.drop (k := k) (by omega) hcl
  have hlen : (z.b.drop k).length = z.b.length - k := List.length_drop
  have fin : ∀ (Mc : List Value) (wq : Int) (so : Sv) (vn : Nat), vn + z.hn = z.c.stems + z.c.st.length / 2 → MOk Mc lo gl (.slice (some (if z.cl = k then p else p.add (k * 1))) (z.b.length - k) (z.cl - k)) (frv z.K) [] → slOk so z.q.out.length 7 (encG z.q.out) → Aft w0 S lo gl z { stemC z.c.tick with masked := true } (z.b.drop k) z.K { z with c := { stemC z.c.tick with masked := true }, A := some (if z.cl = k then p else p.add (k * 1)), cl := z.cl - k, b := z.b.drop k, Mc := Mc, so := so, wq := wq, vn := vn, v7 := .int .i32 (k : Nat) } :=
    fun Mc wq so vn hs hm hso => ⟨⟨hi, hz.rel, hz.keep (c1 := { stemC z.c.tick with masked := true }) hi rfl, by show MOk Mc lo gl (.slice _ (z.b.drop k).length _) _ _; rw [hlen]; exact hm, ⟨hB2, by show (z.b.drop k).length ≤ z.cl - k; rw [hlen]; omega, fun u hx => hu u (List.mem_of_mem_drop hx)⟩, hz.fr, hz.kd, by show vn + z.hn = (stemC z.c.tick).stems; rw [hstm]; exact hs, fun _ => by show Value.int .i32 (k : Nat) = .int .i32 ((((stemC z.c.tick).stems + 7) / 8 : Nat) : Int); rw [hkk], hso⟩, rfl, rfl, rfl⟩
  cases hmm : z.c.masked with
  | false =>
    unfold RH at hw ⊢
    rw [hmm] at hw ⊢
    rcases hv with rfl | rfl
    · exact (ap_19f w bM bH _ z.Mc lo gl (frv z.K) z.vn z.hn z.v7 z.c.st k z.b.length z.cl p hk hcl hk3 (by omega) l1 l2 z.wq z.q z.so hl48 hz.inv.opd hm l3 hz.bd hz.so l4 hw).mono fun e w' h => outMap h (fun x => { z with c := { stemC z.c.tick with masked := true }, A := some (if z.cl = k then p else p.add (k * 1)), cl := z.cl - k, b := z.b.drop k, Mc := x.1, so := x.2.2, wq := x.2.1, vn := z.vn + z.c.st.length / 2, v7 := .int .i32 (k : Nat) }) (fun x hx => fin x.1 x.2.1 x.2.2 _ (by omega) hx.1 hx.2) (fun _ => rfl) (fun _ => rfl)
    · exact (ap_20f w bM bH _ z.Mc lo gl (frv z.K) z.vn z.hn z.v7 z.c.st k z.b.length z.cl p hk hcl hk3 (by omega) l1 l2 z.wq z.q z.so hl48 hz.inv.opd hm l3 hz.bd hz.so l4 hw).mono fun e w' h => outMap h (fun x => { z with c := { stemC z.c.tick with masked := true }, A := some (if z.cl = k then p else p.add (k * 1)), cl := z.cl - k, b := z.b.drop k, Mc := x.1, so := x.2.2, wq := x.2.1, vn := z.vn + z.c.st.length / 2, v7 := .int .i32 (k : Nat) }) (fun x hx => fin x.1 x.2.1 x.2.2 _ (by omega) hx.1 hx.2) (fun _ => rfl) (fun _ => rfl)
  | true =>
    have hnil : z.c.st = [] := by
      rcases hms with h | h
      · rw [hmm] at h; cases h
      · exact h
    have hs0 : z.c.st.length = 0 := by rw [hnil]; rfl
    have h7 : z.v7 = .int .i32 (k : Nat) := by rw [hz.hm hmm, ← hkk, hstm, hs0]
    unfold RH at hw ⊢
    rw [hmm, h7] at hw ⊢
    rcases hv with rfl | rfl
    · exact (ap_19t w bM bH _ z.Mc lo gl (frv z.K) z.vn z.hn z.c.st k z.b.length z.cl p hk hcl hk3 l1 l2 z.wq z.q z.so hl48 hz.inv.opd hm l3 hz.bd hz.so l4 hw).mono fun e w' h => outMap h (fun x => { z with c := { stemC z.c.tick with masked := true }, A := some (if z.cl = k then p else p.add (k * 1)), cl := z.cl - k, b := z.b.drop k, Mc := x.1, so := x.2.2, wq := x.2.1, vn := z.vn, v7 := .int .i32 (k : Nat) }) (fun x hx => fin x.1 x.2.1 x.2.2 _ (by omega) hx.1 hx.2) (fun _ => rfl) (fun _ => rfl)
    · exact (ap_20t w bM bH _ z.Mc lo gl (frv z.K) z.vn z.hn z.c.st k z.b.length z.cl p hk hcl hk3 l1 l2 z.wq z.q z.so hl48 hz.inv.opd hm l3 hz.bd hz.so l4 hw).mono fun e w' h => outMap h (fun x => { z with c := { stemC z.c.tick with masked := true }, A := some (if z.cl = k then p else p.add (k * 1)), cl := z.cl - k, b := z.b.drop k, Mc := x.1, so := x.2.2, wq := x.2.1, vn := z.vn, v7 := .int .i32 (k : Nat) }) (fun x hx => fin x.1 x.2.1 x.2.2 _ (by omega) hx.1 hx.2) (fun _ => rfl) (fun _ => rfl)
theorem apply_ret {b : List Nat} {kA : Option Addr} {kcl : Nat} {K : List (Option Addr × Nat × List Nat)} (hz : ROk w0 S lo gl z) (ho : z.c.ops + 1 < 2000) (hK : z.K = (kA, kcl, b) :: K) (hw : Hp w ((RH bM bH z).map (·.1)) (RH bM bH z) w) :
    Calls Tryz.prog 116 [.pointer (some ⟨bH, 0, none⟩), .pointer (some ⟨bM, 0, none⟩), .agg #[.int .u8 11, .bool false]].toArray w (Out w ((RH bM bH z).map (·.1)) (Aft w0 S lo gl z { z.c.tick with deep := z.c.deep - 1 } b K) (fun _ => .nilIface) (RH bM bH)) := by
  obtain ⟨l1, l2, l3, l4⟩ := hz.lens
  have hi : Inv { z.c.tick with deep := z.c.deep - 1 } := (hz.inv.tick ho).deep
  have hl48 := hz.inv.len
  have hm := hz.m
  have hkd := hz.kd
  have hfr := hz.fr
  rw [hK] at hm hkd hfr
  rw [frv_cons] at hm
  obtain ⟨hf1, hf2⟩ := List.forall_mem_cons.1 hfr
  exact (ap_11 w bM bH _ z.Mc lo gl _ (frv K) z.vn z.hn z.v7 z.c.masked z.c.st (.slice kA b.length kcl) rfl rfl l1 l2 z.wq z.q z.so hl48 hz.inv.opd hm l3 hz.bd hz.so l4 hw).mono fun e w' h => outMap h (fun x => { z with c := { z.c.tick with deep := z.c.deep - 1 }, A := kA, cl := kcl, b := b, K := K, Mc := x.1, so := x.2.2, wq := x.2.1 }) (fun x hx => ⟨⟨hi, hz.rel, hz.keep (c1 := { z.c.tick with deep := z.c.deep - 1 }) hi rfl, hx.1, hf1, hf2, by show K.length = z.c.deep - 1; simp only [List.length_cons] at hkd; omega, hz.st, hz.hm, hx.2⟩, rfl, rfl, rfl⟩) (fun _ => rfl) (fun _ => rfl)
theorem RdL.at {A : Option Addr} {bss : List (List Nat)} {j : Nat} {sub : List Nat} (h : RdL w S A bss) (hj : bss[j]? = some sub) : ∃ Ai ci, RdE w S A j (.slice Ai sub.length ci) ∧ RdB w S Ai sub ∧ sub.length ≤ ci ∧ ∀ u ∈ sub, u < 256 := by
  obtain ⟨⟨p, hp, h1, h2, Ai, ci, h3, h4, h5⟩, h6⟩ := h j sub hj
  exact ⟨Ai, ci, ⟨p, hp, h1, h2, h3⟩, h4, h5, h6⟩
theorem apply_call {v cLo cGl : Nat} {k : Int} {s : List Int} {Alo Agl : Option Addr} {los gls : List (List Nat)} {sub : List Nat} (hz : ROk w0 S (.slice Alo los.length cLo) (.slice Agl gls.length cGl) z) (ho : z.c.ops + 1 < 2000) (hLo : RdL w0 S Alo los) (hGl : RdL w0 S Agl gls) (h3 : los.length ≤ 300 ∧ gls.length ≤ 300) (hv : v = 10 ∨ v = 29) (hs : z.c.st = s ++ [k * 65536]) (hk : 0 ≤ k + 107) (hsub : (bif v == 10 then los else gls)[(k + 107).toNat]? = some sub) (hd : z.c.deep + 1 < 9) (hEE : ∀ A j v, RdE w0 S A j v → RdE w ((RH bM bH z).map (·.1)) A j v) (hw : Hp w ((RH bM bH z).map (·.1)) (RH bM bH z) w) :
    Calls Tryz.prog 116 [.pointer (some ⟨bH, 0, none⟩), .pointer (some ⟨bM, 0, none⟩), .agg #[.int .u8 (v : Nat), .bool false]].toArray w (Out w ((RH bM bH z).map (·.1)) (Aft w0 S (.slice Alo los.length cLo) (.slice Agl gls.length cGl) z { z.c.tick with st := s, deep := z.c.deep + 1 } sub ((z.A, z.cl, z.b) :: z.K)) (fun _ => .nilIface) (RH bM bH)) := by
  obtain ⟨l1, l2, l3, l4⟩ := hz.lens
  have hi : Inv { z.c.tick with st := s, deep := z.c.deep + 1 } := (hz.inv.tick ho).call (q := k * 65536) (d := z.c.deep + 1) hs
  have hl48 := hz.inv.len
  have hopd := hz.inv.opd
  have hm := hz.m
  rw [hs] at hl48 hopd hm
  have hko : Opd (k * 65536) := hopd _ (by simp)
  have hkb : -32768 ≤ k ∧ k ≤ 32768 := by unfold Opd at hko; omega
  have hf : (frv z.K).length < 10 := by rw [frv_len, hz.kd]; omega
  have hkj : k + 107 = ((k + 107).toNat : Int) := by omega
  have hj := (List.getElem?_eq_some_iff.1 hsub).1
  have fin : ∀ (Ai : Option Addr) (ci : Nat) (Mc : List Value) (wq : Int) (so : Sv), RdB w0 S Ai sub ∧ sub.length ≤ ci ∧ (∀ u ∈ sub, u < 256) → MOk Mc (.slice Alo los.length cLo) (.slice Agl gls.length cGl) (.slice Ai sub.length ci) (frv z.K ++ [.slice z.A z.b.length z.cl]) s → slOk so z.q.out.length 7 (encG z.q.out) → Aft w0 S (.slice Alo los.length cLo) (.slice Agl gls.length cGl) z { z.c.tick with st := s, deep := z.c.deep + 1 } sub ((z.A, z.cl, z.b) :: z.K) { z with c := { z.c.tick with st := s, deep := z.c.deep + 1 }, A := Ai, cl := ci, b := sub, K := (z.A, z.cl, z.b) :: z.K, Mc := Mc, so := so, wq := wq } :=
    fun Ai ci Mc wq so hby hm hso => ⟨⟨hi, hz.rel, hz.keep (c1 := { z.c.tick with st := s, deep := z.c.deep + 1 }) hi rfl, by show MOk Mc _ _ _ (frv ((z.A, z.cl, z.b) :: z.K)) s; rw [frv_cons]; exact hm, hby, List.forall_mem_cons.2 ⟨hz.by_, hz.fr⟩, by show (_ :: z.K).length = z.c.deep + 1; rw [List.length_cons, hz.kd], hz.st, hz.hm, hso⟩, rfl, rfl, rfl⟩
  rcases hv with rfl | rfl
  · obtain ⟨Ai, ci, hE, hB, hci, hu⟩ := hLo.at (j := (k + 107).toNat) hsub
    exact (ap_10 w bM bH _ z.Mc _ (frv z.K) z.vn z.hn z.v7 z.c.masked s k _ Alo Agl Ai cLo cGl los.length gls.length sub.length ci hkj hkb hj h3.1 hf rfl rfl l1 l2 z.wq z.q z.so hl48 hopd hm l3 hz.bd hz.so l4 (hEE _ _ _ hE) hw).mono fun e w' h => outMap h (fun x => { z with c := { z.c.tick with st := s, deep := z.c.deep + 1 }, A := Ai, cl := ci, b := sub, K := (z.A, z.cl, z.b) :: z.K, Mc := x.1, so := x.2.2, wq := x.2.1 }) (fun x hx => fin Ai ci x.1 x.2.1 x.2.2 ⟨hB, hci, hu⟩ hx.1 hx.2) (fun _ => rfl) (fun _ => rfl)
  · obtain ⟨Ai, ci, hE, hB, hci, hu⟩ := hGl.at (j := (k + 107).toNat) hsub
    exact (ap_29 w bM bH _ z.Mc _ (frv z.K) z.vn z.hn z.v7 z.c.masked s k _ Alo Agl Ai cLo cGl los.length gls.length sub.length ci hkj hkb hj h3.2 hf rfl rfl l1 l2 z.wq z.q z.so hl48 hopd hm l3 hz.bd hz.so l4 (hEE _ _ _ hE) hw).mono fun e w' h => outMap h (fun x => { z with c := { z.c.tick with st := s, deep := z.c.deep + 1 }, A := Ai, cl := ci, b := sub, K := (z.A, z.cl, z.b) :: z.K, Mc := x.1, so := x.2.2, wq := x.2.1 }) (fun x hx => fin Ai ci x.1 x.2.1 x.2.2 ⟨hB, hci, hu⟩ hx.1 hx.2) (fun _ => rfl) (fun _ => rfl)
/-- Any operator that does not end the run. -/
theorem apply_any {v cLo cGl : Nat} {esc : Bool} {c1 : CSt} {r1 : List Nat} {K1 : List (List Nat)} {Alo Agl : Option Addr} {los gls : List (List Nat)} (hz : ROk w0 S (.slice Alo los.length cLo) (.slice Agl gls.length cGl) z) (ho : z.c.ops + 1 < 2000) (hLo : RdL w0 S Alo los) (hGl : RdL w0 S Agl gls) (h3 : los.length ≤ 300 ∧ gls.length ≤ 300) (hs : St1 los gls z.c.tick v esc z.b (z.K.map (·.2.2)) c1 r1 K1) (hEE : ∀ A j v, RdE w0 S A j v → RdE w ((RH bM bH z).map (·.1)) A j v) (hw : Hp w ((RH bM bH z).map (·.1)) (RH bM bH z) w) :
    Calls Tryz.prog 116 [.pointer (some ⟨bH, 0, none⟩), .pointer (some ⟨bM, 0, none⟩), .agg #[.int .u8 (v : Nat), .bool esc]].toArray w (Out w ((RH bM bH z).map (·.1)) (fun z' => ROk w0 S (.slice Alo los.length cLo) (.slice Agl gls.length cGl) z' ∧ z'.c = c1 ∧ z'.b = r1 ∧ z'.K.map (·.2.2) = K1) (fun _ => .nilIface) (RH bM bH)) := by
  have up : ∀ {c b K}, K.map (fun k : Option Addr × Nat × List Nat => k.2.2) = K1 → c = c1 → b = r1 → ∀ e w', Out w ((RH bM bH z).map (·.1)) (Aft w0 S (.slice Alo los.length cLo) (.slice Agl gls.length cGl) z c b K) (fun _ => .nilIface) (RH bM bH) e w' → Out w ((RH bM bH z).map (·.1)) (fun z' => ROk w0 S (.slice Alo los.length cLo) (.slice Agl gls.length cGl) z' ∧ z'.c = c1 ∧ z'.b = r1 ∧ z'.K.map (·.2.2) = K1) (fun _ => .nilIface) (RH bM bH) e w' :=
    fun hK hc hb e w' h => outMap h id (fun x hx => ⟨hx.1, by rw [id, hx.2.1, hc], by rw [id, hx.2.2.1, hb], by rw [id, hx.2.2.2, hK]⟩) (fun _ => rfl) (fun _ => rfl)
  generalize hd : z.c.tick = d at hs
  generalize hKK : z.K.map (fun k : Option Addr × Nat × List Nat => k.2.2) = KK at hs
  cases hs with
  | ret h1 =>
    cases hzK : z.K with
    | nil => rw [hzK] at hKK; cases hKK
    | cons k K =>
      rw [hzK] at hKK
      injection hKK with e1 e2
      obtain ⟨kA, kcl, kb⟩ := k
      subst e1
      subst hd
      exact (apply_ret hz ho hzK hw).mono (up e2 rfl rfl)
  | call h1 h2 h3' h4 h5 => subst hd; exact (apply_call hz ho hLo hGl h3 h1 h2 h3' h4 h5 hEE hw).mono (up (by rw [← hKK]; rfl) rfl rfl)
  | flex h1 h2 => subst hd; exact (apply_flex hz ho h1 h2 hw).mono (up hKK rfl rfl)
  | mask h1 h2 h3' h4 => subst hd; exact (apply_mask hz ho h1 h2 h3' h4 hw).mono (up hKK rfl rfl)
  | op h1 h2 h3' h4 h5 h6 h7 h8 => subst hd; exact (apply_op hz ho h1 h8 hw).mono (up hKK rfl rfl)
end
theorem un54 : (Tryz.prog.underlying 54).map (fun d => match d with | .interface _ => true | _ => false) = some true := by kernel_rfl
theorem un114 : Tryz.prog.underlying 114 = some .string := by kernel_rfl
theorem co114 : (Tryz.prog.info? 114).map (·.comparable) = some true := by kernel_rfl
theorem eqNN (d : Nat) (w : World) : (Op.equalIn (d + 1) 54 .nilIface .nilIface).run Tryz.prog w = .ok true w := by
  have h := un54
  cases hu : Tryz.prog.underlying 54 with
  | none => rw [hu] at h; cases h
  | some u => rw [hu] at h; cases u <;> simp at h <;> simp [Op.equalIn, run_underlying hu]
theorem eqNI (d : Nat) (t : TypeId) (v : Value) (w : World) : (Op.equalIn (d + 1) 54 .nilIface (.iface t v)).run Tryz.prog w = .ok false w := by
  have h := un54
  cases hu : Tryz.prog.underlying 54 with
  | none => rw [hu] at h; cases h
  | some u => rw [hu] at h; cases u <;> simp at h <;> simp [Op.equalIn, run_underlying hu]
theorem eqII (d : Nat) (a b : ByteArray) (w : World) : (Op.equalIn (d + 2) 54 (.iface 114 (.string a)) (.iface 114 (.string b))).run Tryz.prog w = .ok (a == b) w := by
  have h := un54
  have hc := co114
  cases hi : Tryz.prog.info? 114 with
  | none => rw [hi] at hc; cases hc
  | some i =>
    rw [hi] at hc
    have hc2 : i.comparable = true := by simpa using hc
    cases hu : Tryz.prog.underlying 54 with
    | none => rw [hu] at h; cases h
    | some u => rw [hu] at h; cases u <;> simp at h <;> simp [Op.equalIn, run_underlying hu, run_underlying un114, typeInfo, hi, hc2]
section
variable {n : Nat} {D : List Deferred} {w0 : World} {S : List Nat} {L : Slots} {H : Heap} {d : Option Tmp} {ty : TypeId} {pos : String} {af : Array Edge} {gd : Option (Nat × Bool)}
theorem y_neqNil {u : TypeId} {x : Operand} (hx : ev L x = some .nilIface) : Go.Eng.Yields Tryz.prog n D w0 S ⟨d, .binOp .neq 54 x (.const .nilIface) u, ty, pos, af, gd⟩ L H (.bool false) := by
  intro a w ha hw
  have h3 : (binOp .neq 54 .nilIface .nilIface).run Tryz.prog w = .ok (.bool false) w := by
    show (do pure (Value.bool (!(← Op.equal 54 .nilIface .nilIface))) : Sem Value).run Tryz.prog w = _
    simp only [Sem.run_bind, show (Op.equal 54 .nilIface .nilIface).run Tryz.prog w = .ok true w from eqNN 9999 w, Result.andThen_ok, Sem.run_pure, Bool.not_true]
  have h4 : (eqGuard .neq 54 x (.const .nilIface) .nilIface .nilIface).run Tryz.prog w = .ok () w := by simp [eqGuard]
  have h5 : a.eval (.const .nilIface) = .nilIface := rfl
  simp only [execOp, ha.ev_eq hx, h5]
  simp only [Sem.run_bind, h4, h3, Result.andThen_ok, Sem.run_pure]
theorem y_eqlNI {u : TypeId} {x y : Operand} {t : TypeId} {v : Value} (hx : ev L x = some .nilIface) (hy : ev L y = some (.iface t v)) : Go.Eng.Yields Tryz.prog n D w0 S ⟨d, .binOp .eql 54 x y u, ty, pos, af, gd⟩ L H (.bool false) := by
  intro a w ha hw
  have h3 : (binOp .eql 54 .nilIface (.iface t v)).run Tryz.prog w = .ok (.bool false) w := by
    show (do pure (Value.bool (← Op.equal 54 .nilIface (.iface t v))) : Sem Value).run Tryz.prog w = _
    simp only [Sem.run_bind, show (Op.equal 54 .nilIface (.iface t v)).run Tryz.prog w = .ok false w from eqNI 9999 t v w, Result.andThen_ok, Sem.run_pure]
  have h4 : (eqGuard .eql 54 x y .nilIface (.iface t v)).run Tryz.prog w = .ok () w := by simp [eqGuard]
  simp only [execOp, ha.ev_eq hx, ha.ev_eq hy]
  simp only [Sem.run_bind, h4, h3, Result.andThen_ok, Sem.run_pure]
theorem y_eqlII {u : TypeId} {x y : Operand} {s : ByteArray} (hs : (s == s) = true) (hx : ev L x = some (.iface 114 (.string s))) (hy : ev L y = some (.iface 114 (.string s))) : Go.Eng.Yields Tryz.prog n D w0 S ⟨d, .binOp .eql 54 x y u, ty, pos, af, gd⟩ L H (.bool true) := by
  intro a w ha hw
  have h3 : (binOp .eql 54 (.iface 114 (.string s)) (.iface 114 (.string s))).run Tryz.prog w = .ok (.bool true) w := by
    show (do pure (Value.bool (← Op.equal 54 (.iface 114 (.string s)) (.iface 114 (.string s)))) : Sem Value).run Tryz.prog w = _
    simp only [Sem.run_bind, show (Op.equal 54 (.iface 114 (.string s)) (.iface 114 (.string s))).run Tryz.prog w = .ok (s == s) w from eqII 9998 s s w, Result.andThen_ok, Sem.run_pure, hs]
  have h4 : (eqGuard .eql 54 x y (.iface 114 (.string s)) (.iface 114 (.string s))).run Tryz.prog w = .ok () w := by simp [eqGuard]
  simp only [execOp, ha.ev_eq hx, ha.ev_eq hy]
  simp only [Sem.run_bind, h4, h3, Result.andThen_ok, Sem.run_pure]
end
section
variable {w0 w : World} {S : List Nat} {Mc : List Value} {lo gl ins : Value} {fr : List Value} {st : List Int} {bM bH : Nat} {z : RS}
/-- The state with so many bytes fewer. -/
def skipR (z : RS) (k : Nat) (p : Addr) : RS := { z with A := some (if z.cl = k then p else p.add (k * 1)), cl := z.cl - k, b := z.b.drop k, Mc := z.Mc.set 2 (.slice (some (if z.cl = k then p else p.add (k * 1))) (z.b.length - k) (z.cl - k)) }
theorem ROk.skip {p : Addr} {k : Nat} (hz : ROk w0 S lo gl z) (hp : z.A = some p) (hk : k ≤ z.b.length) : ROk w0 S lo gl (skipR z k p) := by
  obtain ⟨h1, h2, h3⟩ := hz.by_
  rw [hp] at h1
  have hl : (z.b.drop k).length = z.b.length - k := List.length_drop
  exact ⟨hz.inv, hz.rel, hz.bd, by show MOk (z.Mc.set 2 _) lo gl (.slice _ (z.b.drop k).length _) _ _; rw [hl]; exact hz.m.setIns _, ⟨h1.drop hk h2, by show (z.b.drop k).length ≤ z.cl - k; rw [hl]; omega, fun u hu => h3 u (List.mem_of_mem_drop hu)⟩, hz.fr, hz.kd, hz.st, hz.hm, hz.so⟩
/-- The state with a number more. -/
def numR (z : RS) (k : Nat) (p : Addr) (q : Int) : RS := { skipR z k p with c := { z.c.tick with st := z.c.st ++ [q] }, Mc := ((z.Mc.set 2 (.slice (some (if z.cl = k then p else p.add (k * 1))) (z.b.length - k) (z.cl - k))).set (14 + z.c.st.length * 1) (.float .f64 (F q))).set 527 (.int .i32 ((z.c.st.length + 1 : Nat) : Int)) }
theorem ROk.num {p : Addr} {k : Nat} {q : Int} (hz : ROk w0 S lo gl z) (hp : z.A = some p) (hk : k ≤ z.b.length) (ho : z.c.ops + 1 < 2000) (hl : z.c.st.length + 1 ≤ 48) (hq : Opd q) : ROk w0 S lo gl (numR z k p q) := by
  have h := hz.skip hp hk
  exact ⟨hz.inv.num ho hl hq, hz.rel, hz.bd.mono (show z.c.ops * 128849018880 ≤ (z.c.ops + 1) * 128849018880 by omega), h.m.push q (by show z.c.st.length < 513; omega), h.by_, h.fr, h.kd, h.st, h.hm, h.so⟩
/-- The pen's block and its pieces, as they lie at the start. -/
def z0R (A : Option Addr) (cl : Nat) (b : List Nat) (Mc : List Value) : RS := ⟨⟨⟨0, 0, 0, 0, false, []⟩, [], 0, false, false, false, 0, 0⟩, A, cl, b, [], Mc, ⟨0, 0, 0, 0, false, [], none⟩, none, 0, 0, .int .i32 0, 0⟩
theorem MOk.start (hl : Mc.length = 593) : MOk ((((((Mc.set 592 (.int .u32 2)).set 2 ins).set 0 lo).set 1 gl).set 527 (.int .i32 0)).set 13 (.int .i32 0)) lo gl ins [] [] where
  len := by simpa using hl
  loc := set_other (by omega) (set_other (by omega) (set_other (by omega) (set_same (by simp only [List.length_set]; omega))))
  glo := set_other (by omega) (set_other (by omega) (set_same (by simp only [List.length_set]; omega)))
  cod := set_other (by omega) (set_other (by omega) (set_other (by omega) (set_other (by omega) (set_same (by simp only [List.length_set]; omega)))))
  frm := fun i v hv => by simp at hv
  top := set_same (by simp only [List.length_set]; omega)
  ops := fun i v hv => by simp at hv
  tp := set_other (by omega) (set_same (by simp only [List.length_set]; omega))
  ctx := set_other (by omega) (set_other (by omega) (set_other (by omega) (set_other (by omega) (set_other (by omega) (set_same (by omega))))))
  frl := by simp
  stl := by simp
theorem ROk.start {A : Option Addr} {cl : Nat} {b : List Nat} (hm : MOk Mc lo gl (.slice A b.length cl) [] []) (hB : RdB w0 S A b) (hcl : b.length ≤ cl) (hu : ∀ u ∈ b, u < 256) : ROk w0 S lo gl (z0R A cl b Mc) :=
  ⟨Inv.zero, ⟨[], ⟨rfl, rfl, rfl, rfl, rfl, fun _ => ⟨rfl, rfl⟩, fun h => (by cases h), rfl, rfl, fun h => (by cases h), fun _ => ⟨.inl rfl, rfl, rfl⟩⟩, fun _ _ h => by cases h⟩, ⟨Nat.zero_le _, Nat.zero_le _, Nat.zero_le _, Nat.zero_le _, fun _ _ _ _ h => by cases h⟩, hm, ⟨hB, hcl, hu⟩, fun k hk => (by cases hk), rfl, rfl, fun h => (by cases h), ⟨rfl, rfl⟩⟩
end
end Go.Proofs.YtbepljmeflndkaaGreatDoor
namespace Go.Proofs.YtbepljmeflndkaaGreatDoor
open Go.Eng
theorem apl_29 : aPlan Tryz.prog 29 = some ([.float .f32 0, .float .f32 0, .float .f32 0, .float .f32 0], [(0, 1), (1, 1), (2, 1), (3, 1)]) := by kernel_rfl
theorem ar_29 : arrE Tryz.prog 29 = some (4, 1) := by kernel_rfl
theorem bp_117 : bPlan Tryz.prog 117 = some ([.int .u8 0, .bool false], [(0, 1), (1, 1)]) := by kernel_rfl
theorem bp_69 : bPlan Tryz.prog 69 = some ([.slice none 0 0, .nilIface, .slice none 0 0, .string ⟨#[]⟩, .slice none 0 0, .slice none 0 0, .slice none 0 0, .slice none 0 0], [(0, 1), (1, 1), (2, 1), (3, 1), (4, 1), (5, 1), (6, 1), (7, 1)]) := by kernel_rfl
theorem cv_71_3 : cvK Tryz.prog 71 3 = some .i64 := by kernel_rfl
theorem cv_72_3 : cvK Tryz.prog 72 3 = some .i64 := by kernel_rfl
theorem es_25 : elSize Tryz.prog 25 = some 7 := by kernel_rfl
theorem es_48 : elSize Tryz.prog 48 = some 7 := by kernel_rfl
theorem es_63 : elSize Tryz.prog 63 = some 1 := by kernel_rfl
theorem fo_34_0 : fOff Tryz.prog 34 0 = some 0 := by kernel_rfl
theorem fo_69_1 : fOff Tryz.prog 69 1 = some 1 := by kernel_rfl
theorem fo_69_4 : fOff Tryz.prog 69 4 = some 4 := by kernel_rfl
theorem fo_69_6 : fOff Tryz.prog 69 6 = some 6 := by kernel_rfl
theorem fo_69_7 : fOff Tryz.prog 69 7 = some 7 := by kernel_rfl
theorem fo_74_0 : fOff Tryz.prog 74 0 = some 0 := by kernel_rfl
theorem fo_74_1 : fOff Tryz.prog 74 1 = some 1 := by kernel_rfl
theorem fo_77_0 : fOff Tryz.prog 77 0 = some 0 := by kernel_rfl
theorem fo_77_1 : fOff Tryz.prog 77 1 = some 1 := by kernel_rfl
theorem ld_28 : ldSize Tryz.prog 28 = some none := by kernel_rfl
theorem ld_29 : ldSize Tryz.prog 29 = some (some 4) := by kernel_rfl
theorem ld_52 : ldSize Tryz.prog 52 = some (some 4) := by kernel_rfl
theorem ld_63 : ldSize Tryz.prog 63 = some none := by kernel_rfl
theorem ld_66 : ldSize Tryz.prog 66 = some none := by kernel_rfl
theorem ld_72 : ldSize Tryz.prog 72 = some none := by kernel_rfl
theorem ld_75 : ldSize Tryz.prog 75 = some (some 6) := by kernel_rfl
theorem ld_77 : ldSize Tryz.prog 77 = some (some 7) := by kernel_rfl
theorem ni_103 : niT Tryz.prog 103 = true := by kernel_rfl
theorem ok_10 : callOk Tryz.prog 10 = true := by kernel_rfl
theorem ok_11 : callOk Tryz.prog 11 = true := by kernel_rfl
theorem ok_18 : callOk Tryz.prog 18 = true := by kernel_rfl
theorem ok_27 : callOk Tryz.prog 27 = true := by kernel_rfl
theorem ok_33 : callOk Tryz.prog 33 = true := by kernel_rfl
theorem ok_4 : callOk Tryz.prog 4 = true := by kernel_rfl
theorem ok_5 : callOk Tryz.prog 5 = true := by kernel_rfl
theorem ok_6 : callOk Tryz.prog 6 = true := by kernel_rfl
theorem ok_7 : callOk Tryz.prog 7 = true := by kernel_rfl
theorem sl_63 : isSl Tryz.prog 63 = some 23 := by kernel_rfl
theorem sz_23 : szOf Tryz.prog 23 = some 1 := by kernel_rfl
theorem sz_29 : szOf Tryz.prog 29 = some 4 := by kernel_rfl
theorem sz_52 : szOf Tryz.prog 52 = some 4 := by kernel_rfl
theorem sz_93 : szOf Tryz.prog 93 = some 1 := by kernel_rfl
theorem ze_22 : zeroC Tryz.prog 22 = some [.slice none 0 0] := by kernel_rfl
theorem ze_23 : zeroC Tryz.prog 23 = some [.slice none 0 0] := by kernel_rfl
theorem ze_29 : zeroC Tryz.prog 29 = some [.float .f32 0, .float .f32 0, .float .f32 0, .float .f32 0] := by kernel_rfl
theorem ze_52 : zeroC Tryz.prog 52 = some [.float .f64 0, .float .f64 0, .float .f64 0, .float .f64 0] := by kernel_rfl
theorem ze_99 : zeroC Tryz.prog 99 = some [.slice none 0 0, .float .f64 0, .float .f64 0, .float .f64 0, .float .f64 0, .int .i32 0, .int .i32 0, .int .i32 0, .float .f64 0, .float .f64 0, .float .f64 0, .float .f64 0, .bool false, .bool false, .bool false, .float .f64 0, .float .f64 0] := by kernel_rfl
end Go.Proofs.YtbepljmeflndkaaGreatDoor
namespace Go.Proofs.YtbepljmeflndkaaGreatDoor
open Go.Eng Go.Fl
set_option maxRecDepth 100000
attribute [local irreducible] IntKind.wrap Int.tdiv Int.tmod Int.emod maxLen F G
section
variable {w0 : World} {S : List Nat} {lo gl : Value} {bM bH : Nat} {z : RS}
theorem sub1 {w : World} {H : Heap} {b : Blk} {A : Option Addr} {bs : List Nat} (h : RdB w0 S A bs) (hw : Hp w0 S (b :: H) w) : RdB w [b.1] A bs := h.into (hw.sub (H' := [b]) (.cons .here .nil))
theorem f33_numR {v : Nat} {r : List Nat} {p : Addr} {zz : Int × Nat} (hz : ROk w0 S lo gl z) (hb : z.b = v :: r) (hp : z.A = some p) (hnum : isNum v = true) (hn : numB (v :: r) = some zz) (hl : z.c.st.length + 1 ≤ 48) : ∀ w, Hp w0 S (RH bM bH z) w → Calls Tryz.prog 33 [.pointer (some ⟨bM, 0, none⟩)].toArray w (Out w0 S (fun _ : Unit => True) (fun _ => .tuple #[.bool true, .nilIface]) (fun _ => RH bM bH (numR z zz.2 p zz.1))) := by
  obtain ⟨c, A, cl, b, K, Mc, q, so, vn, hn', v7, wq⟩ := z
  simp only at hb hp hl
  subst hb hp
  have hby := hz.by_
  simp only at hby
  exact out_headF (H1 := [(bM, Mc, 95)]) (fun w h0 h1 => f33_num w bM v cl r p hby.2.1 hby.2.2 (sub1 hby.1 h0) Mc lo gl (frv K) c.st hz.m zz hnum hn (by omega) h1)
theorem f33_noR {v : Nat} {r : List Nat} {p : Addr} (hz : ROk w0 S lo gl z) (hb : z.b = v :: r) (hp : z.A = some p) (h32 : v < 32) (h28 : v ≠ 28) : ∀ w, Hp w0 S (RH bM bH z) w → Calls Tryz.prog 33 [.pointer (some ⟨bM, 0, none⟩)].toArray w (Out w0 S (fun _ : Unit => True) (fun _ => .tuple #[.bool false, .nilIface]) (fun _ => RH bM bH z)) := by
  obtain ⟨c, A, cl, b, K, Mc, q, so, vn, hn', v7, wq⟩ := z
  simp only at hb hp
  subst hb hp
  have hby := hz.by_
  simp only at hby
  exact out_headF (H1 := [(bM, Mc, 95)]) (fun w h0 h1 => f33_no w bM v cl r p hby.2.1 hby.2.2 (sub1 hby.1 h0) Mc lo gl (frv K) c.st hz.m h32 h28 h1)
end
set_option maxHeartbeats 4000000 in
theorem f27_any (w : World) (bM bH n : Nat) (Mc : List Value) (A Alo Agl : Option Addr) (cl cLo cGl : Nat) (b : List Nat) (los gls : List (List Nat)) (pf : PSt) (hml : Mc.length = 593) (hRB : RdB w [bM, bH] A b) (hcl : b.length ≤ cl) (hu : ∀ u ∈ b, u < 256) (hLo : RdL w [bM, bH] Alo los) (hGl : RdL w [bM, bH] Agl gls) (h3 : los.length ≤ 300 ∧ gls.length ≤ 300) (hF : Fl los gls n ⟨⟨0, 0, 0, 0, false, []⟩, [], 0, false, false, false, 0, 0⟩ b [] pf) (hw : Hp w [bM, bH] (RH bM bH (z0R A cl b Mc)) w) : Calls Tryz.prog 27 [.pointer (some ⟨bM, 0, none⟩), .slice A b.length cl, (.slice Alo los.length cLo), (.slice Agl gls.length cGl), .iface 103 (.pointer (some ⟨bH, 0, none⟩))].toArray w (Out w [bM, bH] (fun z : RS => (∃ l, (pf.out = l.map IS.stk ∧ MvB l) ∧ z.q.out = pf.out ∧ z.q.bx = bnd (bpts l) ∧ slOk z.so z.q.out.length 7 (encG z.q.out)) ∧ BxBd z.q.bx (2000 * 128849018880)) (fun z => .nilIface) (fun z => RH bM bH z)) := by
 refine enter (n := 106) Tryz.func27 rfl rfl rfl hw ?_
 refine cR ?_
 refine lA rfl ?_
 refine nR ?_
 refine lM rfl ?_
 refine lM rfl ?_
 refine l_context rfl (.tail _ (.head _)) rfl rfl (out_keep (fun w9 => f115_any w9 _)) ?_
 intro _ _
 refine lN rfl ?_
 refine lV (y_fieldAddr fo_95_6 rfl) ?_
 refine l_does rfl rfl (g_store1 (cs' := (Mc.set 592 (.int .u32 2))) sz_93 rfl rfl (by first | rfl | assumption) (blt_of (by first | omega | (simp only [List.length_set]; omega))) (by first | rfl | assumption) rfl .here) ?_
 intro _ _
 refine nR ?_
 refine lM rfl ?_
 refine lM rfl ?_
 refine lN rfl ?_
 refine lV (y_fieldAddr fo_95_2 rfl) ?_
 refine l_does rfl rfl (g_store1 (cs' := ((Mc.set 592 (.int .u32 2)).set 2 (.slice A b.length cl))) sz_22 rfl rfl (by first | rfl | assumption) (blt_of (by first | omega | (simp only [List.length_set]; omega))) (by first | rfl | assumption) rfl .here) ?_
 intro _ _
 refine nR ?_
 refine lM rfl ?_
 refine lM rfl ?_
 refine lN rfl ?_
 refine lV (y_fieldAddr fo_95_0 rfl) ?_
 refine l_does rfl rfl (g_store1 (cs' := (((Mc.set 592 (.int .u32 2)).set 2 (.slice A b.length cl)).set 0 (.slice Alo los.length cLo))) sz_23 rfl rfl (by first | rfl | assumption) (blt_of (by first | omega | (simp only [List.length_set]; omega))) (by first | rfl | assumption) rfl .here) ?_
 intro _ _
 refine nR ?_
 refine lM rfl ?_
 refine lM rfl ?_
 refine lN rfl ?_
 refine lV (y_fieldAddr fo_95_1 rfl) ?_
 refine l_does rfl rfl (g_store1 (cs' := ((((Mc.set 592 (.int .u32 2)).set 2 (.slice A b.length cl)).set 0 (.slice Alo los.length cLo)).set 1 (.slice Agl gls.length cGl))) sz_23 rfl rfl (by first | rfl | assumption) (blt_of (by first | omega | (simp only [List.length_set]; omega))) (by first | rfl | assumption) rfl .here) ?_
 intro _ _
 refine nR ?_
 refine lM rfl ?_
 refine lN rfl ?_
 refine lV (y_fieldAddr fo_95_4 rfl) ?_
 refine lV (y_fieldAddr fo_91_1 rfl) ?_
 refine l_does rfl rfl (g_store1 (cs' := (((((Mc.set 592 (.int .u32 2)).set 2 (.slice A b.length cl)).set 0 (.slice Alo los.length cLo)).set 1 (.slice Agl gls.length cGl)).set 527 (.int .i32 0))) sz_21 rfl rfl (by first | rfl | assumption) (blt_of (by first | omega | (simp only [List.length_set]; omega))) (by first | rfl | assumption) rfl .here) ?_
 intro _ _
 refine nR ?_
 refine lM rfl ?_
 refine lN rfl ?_
 refine lV (y_fieldAddr fo_95_3 rfl) ?_
 refine lV (y_fieldAddr fo_88_1 rfl) ?_
 refine l_does rfl rfl (g_store1 (cs' := ((((((Mc.set 592 (.int .u32 2)).set 2 (.slice A b.length cl)).set 0 (.slice Alo los.length cLo)).set 1 (.slice Agl gls.length cGl)).set 527 (.int .i32 0)).set 13 (.int .i32 0))) sz_21 rfl rfl (by first | rfl | assumption) (blt_of (by first | omega | (simp only [List.length_set]; omega))) (by first | rfl | assumption) rfl .here) ?_
 intro _ _
 refine nQ ?_
 refine c_seq ?_
 refine c_block ?_
 have hm0 := MOk.start (ins := (.slice A b.length cl)) (lo := (.slice Alo los.length cLo)) (gl := (.slice Agl gls.length cGl)) hml
 refine c_loop (ι := RS × Nat) (φ := fun z => ROk w [bM, bH] (.slice Alo los.length cLo) (.slice Agl gls.length cGl) z.1 ∧ Fl los gls z.2 z.1.c z.1.b (z.1.K.map (fun k => k.2.2)) pf) (L' := fun _ => [(0, .pointer (some ⟨bM, 0, none⟩)), (4, .iface 103 (.pointer (some ⟨bH, 0, none⟩)))]) (H' := fun z => RH bM bH z.1) (fun z => z.2) (z0R A cl b ((((((Mc.set 592 (.int .u32 2)).set 2 (.slice A b.length cl)).set 0 (.slice Alo los.length cLo)).set 1 (.slice Agl gls.length cGl)).set 527 (.int .i32 0)).set 13 (.int .i32 0)), n) ⟨ROk.start hm0 hRB hcl hu, hF⟩ ⟨rfl, rfl, trivial⟩ (.cons .here (.cons .here .refl)) ?_
 intro ⟨⟨c1, A1, cl1, b1, K1, Mc1, q1, so1, vn1, hn1, v71, wq1⟩, n1⟩ ⟨hz, hF1⟩
 simp only at hz hF1 ⊢
 have hml1 := hz.m.len
 simp only at hml1
 generalize hK : K1.map (fun k => k.2.2) = KK at hF1
 cases hF1 with
 | @fin c r K c2 ho hr =>
  subst hK
  obtain ⟨p, hp, hpb, hpS, hpc⟩ := (show RdB w [bM, bH] A1 (14 :: r) from hz.by_.1).ptr
  subst hp
  have hcl1 := hz.by_.2.1
  have hu1 := hz.by_.2.2
  simp only at hcl1 hu1
  have hz1 := hz.skip (k := 1) rfl (show 1 ≤ (14 :: r).length by simp only [List.length_cons]; omega)
  refine c_seq ?_
  refine cR ?_
  refine lM rfl ?_
  refine lN rfl ?_
  refine lV (y_fieldAddr fo_95_2 rfl) ?_
  refine lV (y_load1 ld_22 rfl m0 hz.m.cod) ?_
  refine lV (y_len sl_22 rfl) ?_
  refine lB rfl rfl rfl rfl ?_
  refine nQ ?_
  refine c_true rfl (decide_eq_true (by simp only [List.length_cons]; omega)) ?_
  refine kQ ?_
  refine c_block ?_
  refine c_seq ?_
  refine cR ?_
  refine lM rfl ?_
  refine l_call ok_33 rfl rfl (f33_noR (v := 14) hz rfl rfl (by decide) (by decide)) ?_
  intro _ _
  refine lM rfl ?_
  refine lV (y_extract rfl rfl) ?_
  refine lV (y_extract rfl rfl) ?_
  refine lA rfl ?_
  refine lA rfl ?_
  refine nR ?_
  refine lM rfl ?_
  refine nQ ?_
  refine c_false rfl rfl ?_
  refine kR ?_
  refine lM rfl ?_
  refine lN rfl ?_
  refine lV (y_fieldAddr fo_95_2 rfl) ?_
  refine lV (y_load1 ld_22 rfl m0 hz.m.cod) ?_
  refine lV (y_indexAddr (j := 0) es_22 rfl rfl (by simp)) ?_
  refine lV (y_oldLoad1 ld_5 rfl (by rw [block_add]; exact hpb) (by rw [block_add]; exact hpS) (hpc 0 _ rfl)) ?_
  refine lA rfl ?_
  refine nR ?_
  refine lM rfl ?_
  refine lM rfl ?_
  refine lN rfl ?_
  refine lV (y_fieldAddr fo_95_2 rfl) ?_
  refine lV (y_load1 ld_22 rfl m0 hz.m.cod) ?_
  refine lV (y_sliceLoK (i := 1) es_22 rfl rfl (by simp only [List.length_cons]; omega) hcl1) ?_
  refine lN rfl ?_
  refine lV (y_fieldAddr fo_95_2 rfl) ?_
  refine l_does rfl rfl (g_store1 (cs' := (Mc1.set 2 (.slice (some (if cl1 = 1 then p else p.add (1 * 1))) ((14 :: r).length - 1) (cl1 - 1)))) sz_22 rfl rfl (by first | rfl | assumption) (blt_of (by first | omega | (simp only [List.length_set]; omega))) (by first | rfl | assumption) rfl .here) ?_
  intro _ _
  refine nR ?_
  refine lM rfl ?_
  refine lB rfl rfl rfl rfl ?_
  refine lA rfl ?_
  refine nQ ?_
  refine c_seq ?_
  refine cR ?_
  refine lM rfl ?_
  refine nQ ?_
  refine c_false rfl rfl ?_
  refine kR ?_
  refine lM rfl ?_
  refine lM rfl ?_
  refine lM rfl ?_
  refine lM rfl ?_
  refine lV (y_build1 (out := [_, _]) bp_117 rfl rfl rfl) ?_
  refine l_perm (H' := RH bM bH (skipR (⟨c1, some p, cl1, 14 :: r, K1, Mc1, q1, so1, vn1, hn1, v71, wq1⟩ : RS) 1 p)) (.refl _) ?_
  refine l_apply rfl rfl rfl (out_all (fun w9 h0 h9 => apply_fin (bM := bM) (bH := bH) hz1 hr h9)) ?_
  intro z2 hz2
  refine lA rfl ?_
  refine nQ ?_
  refine c_seq ?_
  refine cR ?_
  refine lM rfl ?_
  refine lV (y_iface ni_114 rfl) ?_
  refine lV (y_eqlII rfl rfl rfl) ?_
  refine nQ ?_
  refine c_true rfl rfl ?_
  refine cR ?_
  refine lA rfl ?_
  refine nQ ?_
  refine c_ret ?_
  refine q_then_ret ?_
  refine q_block_ret ?_
  refine q_rnd_ret ?_
  refine q_block_ret ?_
  refine q_then_ret ?_
  exact body_ret (rs := [.tmp 10]) rfl (vs := [.nilIface]) ⟨rfl, trivial⟩ (out_end z2 ⟨hz2.1, hz2.2.mono (Nat.mul_le_mul_right _ (show c1.ops ≤ 2000 by omega))⟩ rfl .refl) _ (.inr rfl)
 | @num n2 c v r K zz pf ho hnum hzz hl48 hF2 =>
  subst hK
  obtain ⟨p, hp, hpb, hpS, hpc⟩ := (show RdB w [bM, bH] A1 (v :: r) from hz.by_.1).ptr
  subst hp
  have hcl1 := hz.by_.2.1
  have hu1 := hz.by_.2.2
  simp only at hcl1 hu1
  obtain ⟨hnb1, hnb2, oq⟩ := numB_all hzz hu1
  refine c_seq ?_
  refine cR ?_
  refine lM rfl ?_
  refine lN rfl ?_
  refine lV (y_fieldAddr fo_95_2 rfl) ?_
  refine lV (y_load1 ld_22 rfl m0 hz.m.cod) ?_
  refine lV (y_len sl_22 rfl) ?_
  refine lB rfl rfl rfl rfl ?_
  refine nQ ?_
  refine c_true rfl (decide_eq_true (by simp only [List.length_cons]; omega)) ?_
  refine kQ ?_
  refine c_block ?_
  refine c_seq ?_
  refine cR ?_
  refine lM rfl ?_
  refine l_call ok_33 rfl rfl (f33_numR hz rfl rfl hnum hzz hl48) ?_
  intro _ _
  refine lM rfl ?_
  refine lV (y_extract rfl rfl) ?_
  refine lV (y_extract rfl rfl) ?_
  refine lA rfl ?_
  refine lA rfl ?_
  refine nR ?_
  refine lM rfl ?_
  refine nQ ?_
  refine c_true rfl rfl ?_
  refine c_seq ?_
  refine cR ?_
  refine lM rfl ?_
  refine lV (y_neqNil rfl) ?_
  refine nQ ?_
  refine c_false rfl rfl ?_
  refine kQ ?_
  refine c_exit ?_
  refine q_then_exit ?_
  refine q_block_exit ?_
  exact q_rnd (numR (⟨c1, some p, cl1, v :: r, K1, Mc1, q1, so1, vn1, hn1, v71, wq1⟩ : RS) zz.2 p zz.1, n2) ⟨hz.num rfl hnb2 ho hl48 oq, hF2⟩ (Nat.lt_succ_self _) ⟨rfl, rfl, trivial⟩ .refl
 | @step n2 c v r K c2 r2 K2 pf ho hnum n12 n14 hst hF2 =>
  subst hK
  obtain ⟨p, hp, hpb, hpS, hpc⟩ := (show RdB w [bM, bH] A1 (v :: r) from hz.by_.1).ptr
  subst hp
  have hcl1 := hz.by_.2.1
  have hu1 := hz.by_.2.2
  simp only at hcl1 hu1
  have hz1 := hz.skip (k := 1) rfl (show 1 ≤ (v :: r).length by simp only [List.length_cons]; omega)
  have e12 : (((v : Nat) : Int) == 12) = false := by rw [beq_eq_false_iff_ne]; omega
  have hnn := hnum
  unfold isNum at hnn
  rw [Bool.or_eq_false_iff, decide_eq_false_iff_not, beq_eq_false_iff_ne] at hnn
  refine c_seq ?_
  refine cR ?_
  refine lM rfl ?_
  refine lN rfl ?_
  refine lV (y_fieldAddr fo_95_2 rfl) ?_
  refine lV (y_load1 ld_22 rfl m0 hz.m.cod) ?_
  refine lV (y_len sl_22 rfl) ?_
  refine lB rfl rfl rfl rfl ?_
  refine nQ ?_
  refine c_true rfl (decide_eq_true (by simp only [List.length_cons]; omega)) ?_
  refine kQ ?_
  refine c_block ?_
  refine c_seq ?_
  refine cR ?_
  refine lM rfl ?_
  refine l_call ok_33 rfl rfl (f33_noR hz rfl rfl (by omega) (by omega)) ?_
  intro _ _
  refine lM rfl ?_
  refine lV (y_extract rfl rfl) ?_
  refine lV (y_extract rfl rfl) ?_
  refine lA rfl ?_
  refine lA rfl ?_
  refine nR ?_
  refine lM rfl ?_
  refine nQ ?_
  refine c_false rfl rfl ?_
  refine kR ?_
  refine lM rfl ?_
  refine lN rfl ?_
  refine lV (y_fieldAddr fo_95_2 rfl) ?_
  refine lV (y_load1 ld_22 rfl m0 hz.m.cod) ?_
  refine lV (y_indexAddr (j := 0) es_22 rfl rfl (by simp)) ?_
  refine lV (y_oldLoad1 ld_5 rfl (by rw [block_add]; exact hpb) (by rw [block_add]; exact hpS) (hpc 0 _ rfl)) ?_
  refine lA rfl ?_
  refine nR ?_
  refine lM rfl ?_
  refine lM rfl ?_
  refine lN rfl ?_
  refine lV (y_fieldAddr fo_95_2 rfl) ?_
  refine lV (y_load1 ld_22 rfl m0 hz.m.cod) ?_
  refine lV (y_sliceLoK (i := 1) es_22 rfl rfl (by simp only [List.length_cons]; omega) hcl1) ?_
  refine lN rfl ?_
  refine lV (y_fieldAddr fo_95_2 rfl) ?_
  refine l_does rfl rfl (g_store1 (cs' := (Mc1.set 2 (.slice (some (if cl1 = 1 then p else p.add (1 * 1))) ((v :: r).length - 1) (cl1 - 1)))) sz_22 rfl rfl (by first | rfl | assumption) (blt_of (by first | omega | (simp only [List.length_set]; omega))) (by first | rfl | assumption) rfl .here) ?_
  intro _ _
  refine nR ?_
  refine lM rfl ?_
  refine lB rfl rfl rfl rfl ?_
  rw [e12]
  refine lA rfl ?_
  refine nQ ?_
  refine c_seq ?_
  refine cR ?_
  refine lM rfl ?_
  refine nQ ?_
  refine c_false rfl rfl ?_
  refine kR ?_
  refine lM rfl ?_
  refine lM rfl ?_
  refine lM rfl ?_
  refine lM rfl ?_
  refine lV (y_build1 (out := [_, _]) bp_117 rfl rfl rfl) ?_
  refine l_perm (H' := RH bM bH (skipR (⟨c1, some p, cl1, v :: r, K1, Mc1, q1, so1, vn1, hn1, v71, wq1⟩ : RS) 1 p)) (.refl _) ?_
  refine l_apply rfl rfl rfl (out_all (fun w9 h0 h9 => apply_any (bM := bM) (bH := bH) hz1 ho hLo hGl h3 hst (fun A j v h => h.into h0) h9)) ?_
  intro z2 ⟨hy1, hy2, hy3, hy4⟩
  refine lA rfl ?_
  refine nQ ?_
  refine c_seq ?_
  refine cR ?_
  refine lM rfl ?_
  refine lV (y_iface ni_114 rfl) ?_
  refine lV (y_eqlNI rfl rfl) ?_
  refine nQ ?_
  refine c_false rfl rfl ?_
  refine kR ?_
  refine lM rfl ?_
  refine lV (y_neqNil rfl) ?_
  refine nQ ?_
  refine c_false rfl rfl ?_
  refine c_skip ?_
  refine q_block ?_
  exact q_rnd (z2, n2) ⟨hy1, by rw [hy2, hy3, hy4]; exact hF2⟩ (Nat.lt_succ_self _) ⟨rfl, rfl, trivial⟩ .refl
 | @esc n2 c v r K c2 r2 K2 pf ho hst hF2 =>
  subst hK
  obtain ⟨p, hp, hpb, hpS, hpc⟩ := (show RdB w [bM, bH] A1 (12 :: v :: r) from hz.by_.1).ptr
  subst hp
  have hcl1 := hz.by_.2.1
  have hu1 := hz.by_.2.2
  simp only at hcl1 hu1
  have hz1 := hz.skip (k := 1) rfl (show 1 ≤ (12 :: v :: r).length by simp only [List.length_cons]; omega)
  have hz2 := hz1.skip (k := 1) rfl (show 1 ≤ (v :: r).length by simp only [List.length_cons]; omega)
  obtain ⟨pb1, e1, hpb1, hpS1, hpc1⟩ := (show RdB w [bM, bH] (some (if cl1 = 1 then p else p.add (1 * 1))) (v :: r) from hz1.by_.1).ptr
  injection e1 with e1
  subst e1
  refine c_seq ?_
  refine cR ?_
  refine lM rfl ?_
  refine lN rfl ?_
  refine lV (y_fieldAddr fo_95_2 rfl) ?_
  refine lV (y_load1 ld_22 rfl m0 hz.m.cod) ?_
  refine lV (y_len sl_22 rfl) ?_
  refine lB rfl rfl rfl rfl ?_
  refine nQ ?_
  refine c_true rfl (decide_eq_true (by simp only [List.length_cons]; omega)) ?_
  refine kQ ?_
  refine c_block ?_
  refine c_seq ?_
  refine cR ?_
  refine lM rfl ?_
  refine l_call ok_33 rfl rfl (f33_noR (v := 12) hz rfl rfl (by decide) (by decide)) ?_
  intro _ _
  refine lM rfl ?_
  refine lV (y_extract rfl rfl) ?_
  refine lV (y_extract rfl rfl) ?_
  refine lA rfl ?_
  refine lA rfl ?_
  refine nR ?_
  refine lM rfl ?_
  refine nQ ?_
  refine c_false rfl rfl ?_
  refine kR ?_
  refine lM rfl ?_
  refine lN rfl ?_
  refine lV (y_fieldAddr fo_95_2 rfl) ?_
  refine lV (y_load1 ld_22 rfl m0 hz.m.cod) ?_
  refine lV (y_indexAddr (j := 0) es_22 rfl rfl (by simp)) ?_
  refine lV (y_oldLoad1 ld_5 rfl (by rw [block_add]; exact hpb) (by rw [block_add]; exact hpS) (hpc 0 _ rfl)) ?_
  refine lA rfl ?_
  refine nR ?_
  refine lM rfl ?_
  refine lM rfl ?_
  refine lN rfl ?_
  refine lV (y_fieldAddr fo_95_2 rfl) ?_
  refine lV (y_load1 ld_22 rfl m0 hz.m.cod) ?_
  refine lV (y_sliceLoK (i := 1) es_22 rfl rfl (by simp only [List.length_cons]; omega) hcl1) ?_
  refine lN rfl ?_
  refine lV (y_fieldAddr fo_95_2 rfl) ?_
  refine l_does rfl rfl (g_store1 (cs' := (Mc1.set 2 (.slice (some (if cl1 = 1 then p else p.add (1 * 1))) ((12 :: v :: r).length - 1) (cl1 - 1)))) sz_22 rfl rfl (by first | rfl | assumption) (blt_of (by first | omega | (simp only [List.length_set]; omega))) (by first | rfl | assumption) rfl .here) ?_
  intro _ _
  refine nR ?_
  refine lM rfl ?_
  refine lB rfl rfl rfl rfl ?_
  refine lA rfl ?_
  refine nQ ?_
  refine c_seq ?_
  refine cR ?_
  refine lM rfl ?_
  refine nQ ?_
  refine c_true rfl rfl ?_
  refine c_seq ?_
  refine cR ?_
  refine lM rfl ?_
  refine lN rfl ?_
  refine lV (y_fieldAddr fo_95_2 rfl) ?_
  refine lV (y_load1 ld_22 rfl m0 (set_same (by first | omega | (simp only [List.length_set]; omega)))) ?_
  refine lV (y_len sl_22 rfl) ?_
  refine lB rfl rfl rfl rfl ?_
  refine nQ ?_
  refine c_false rfl (decide_eq_false (by simp only [List.length_cons]; omega)) ?_
  refine kR ?_
  refine lM rfl ?_
  refine lN rfl ?_
  refine lV (y_fieldAddr fo_95_2 rfl) ?_
  refine lV (y_load1 ld_22 rfl m0 (set_same (by first | omega | (simp only [List.length_set]; omega)))) ?_
  refine lV (y_indexAddr (j := 0) es_22 rfl rfl (by simp)) ?_
  refine lV (y_oldLoad1 ld_5 rfl (by rw [block_add]; exact hpb1) (by rw [block_add]; exact hpS1) (hpc1 0 _ rfl)) ?_
  refine lA rfl ?_
  refine nG ?_
  refine lM rfl ?_
  refine lM rfl ?_
  refine lN rfl ?_
  refine lV (y_fieldAddr fo_95_2 rfl) ?_
  refine lV (y_load1 ld_22 rfl m0 (set_same (by first | omega | (simp only [List.length_set]; omega)))) ?_
  refine lV (y_sliceLoK (i := 1) es_22 rfl rfl (by simp only [List.length_cons]; omega) (by simp only [List.length_cons] at hcl1 ⊢; omega)) ?_
  refine lN rfl ?_
  refine lV (y_fieldAddr fo_95_2 rfl) ?_
  refine l_does rfl rfl (g_store1 (cs' := ((Mc1.set 2 (.slice (some (if cl1 = 1 then p else p.add (1 * 1))) ((12 :: v :: r).length - 1) (cl1 - 1))).set 2 (.slice (some (if (cl1 - 1) = 1 then (if cl1 = 1 then p else p.add (1 * 1)) else (if cl1 = 1 then p else p.add (1 * 1)).add (1 * 1))) ((12 :: v :: r).length - 1 - 1) (cl1 - 1 - 1)))) sz_22 rfl rfl (by first | rfl | assumption) (blt_of (by first | omega | (simp only [List.length_set]; omega))) (by first | rfl | assumption) rfl .here) ?_
  intro _ _
  refine nR ?_
  refine lM rfl ?_
  refine lM rfl ?_
  refine lM rfl ?_
  refine lM rfl ?_
  refine lV (y_build1 (out := [_, _]) bp_117 rfl rfl rfl) ?_
  refine l_perm (H' := RH bM bH (skipR (skipR (⟨c1, some p, cl1, 12 :: v :: r, K1, Mc1, q1, so1, vn1, hn1, v71, wq1⟩ : RS) 1 p) 1 (if cl1 = 1 then p else p.add (1 * 1)))) (.refl _) ?_
  refine l_apply rfl rfl rfl (out_all (fun w9 h0 h9 => apply_any (bM := bM) (bH := bH) hz2 ho hLo hGl h3 hst (fun A j v h => h.into h0) h9)) ?_
  intro z2 ⟨hy1, hy2, hy3, hy4⟩
  refine lA rfl ?_
  refine nQ ?_
  refine c_seq ?_
  refine cR ?_
  refine lM rfl ?_
  refine lV (y_iface ni_114 rfl) ?_
  refine lV (y_eqlNI rfl rfl) ?_
  refine nQ ?_
  refine c_false rfl rfl ?_
  refine kR ?_
  refine lM rfl ?_
  refine lV (y_neqNil rfl) ?_
  refine nQ ?_
  refine c_false rfl rfl ?_
  refine c_skip ?_
  refine q_block ?_
  exact q_rnd (z2, n2) ⟨hy1, by rw [hy2, hy3, hy4]; exact hF2⟩ (Nat.lt_succ_self _) ⟨rfl, rfl, trivial⟩ .refl
theorem ze95 : ∃ cs, zeroC Tryz.prog 95 = some cs ∧ cs.length = 593 := by
  have h : (zeroC Tryz.prog 95).map List.length = some 593 := by kernel_rfl
  cases hz : zeroC Tryz.prog 95 with
  | none => rw [hz] at h; cases h
  | some cs => rw [hz] at h; injection h with h; exact ⟨cs, rfl, h⟩
theorem un66 : (Tryz.prog.underlying 66).map (fun d => match d with | .interface _ => true | _ => false) = some true := by kernel_rfl
theorem eqNN66 (d : Nat) (w : World) : (Op.equalIn (d + 1) 66 .nilIface .nilIface).run Tryz.prog w = .ok true w := by
  have h := un66
  cases hu : Tryz.prog.underlying 66 with
  | none => rw [hu] at h; cases h
  | some u => rw [hu] at h; cases u <;> simp at h <;> simp [Op.equalIn, run_underlying hu]
section
variable {n : Nat} {D : List Deferred} {w0 : World} {S : List Nat} {L : Slots} {H : Heap} {d : Option Tmp} {ty : TypeId} {pos : String} {af : Array Edge} {gd : Option (Nat × Bool)}
theorem y_neqNil66 {u : TypeId} {x : Operand} (hx : ev L x = some .nilIface) : Go.Eng.Yields Tryz.prog n D w0 S ⟨d, .binOp .neq 66 x (.const .nilIface) u, ty, pos, af, gd⟩ L H (.bool false) := by
  intro a w ha hw
  have h3 : (binOp .neq 66 .nilIface .nilIface).run Tryz.prog w = .ok (.bool false) w := by
    show (do pure (Value.bool (!(← Op.equal 66 .nilIface .nilIface))) : Sem Value).run Tryz.prog w = _
    simp only [Sem.run_bind, show (Op.equal 66 .nilIface .nilIface).run Tryz.prog w = .ok true w from eqNN66 9999 w, Result.andThen_ok, Sem.run_pure, Bool.not_true]
  have h4 : (eqGuard .neq 66 x (.const .nilIface) .nilIface .nilIface).run Tryz.prog w = .ok () w := by simp [eqGuard]
  have h5 : a.eval (.const .nilIface) = .nilIface := rfl
  simp only [execOp, ha.ev_eq hx, h5]
  simp only [Sem.run_bind, h4, h3, Result.andThen_ok, Sem.run_pure]
end
theorem zero99 (A : Option Addr) (cl : Nat) (b : List Nat) (Mc : List Value) (bM bH : Nat) (R : Heap) : ((bH, [.slice none 0 0, .float .f64 0, .float .f64 0, .float .f64 0, .float .f64 0, .int .i32 0, .int .i32 0, .int .i32 0, .float .f64 0, .float .f64 0, .float .f64 0, .float .f64 0, .bool false, .bool false, .bool false, .float .f64 0, .float .f64 0], 99) :: (bM, Mc, 95) :: R).Perm (RH bM bH (z0R A cl b Mc) ++ R) := by
  have h : RH bM bH (z0R A cl b Mc) ++ R = (bM, Mc, 95) :: (bH, [.slice none 0 0, .float .f64 0, .float .f64 0, .float .f64 0, .float .f64 0, .int .i32 0, .int .i32 0, .int .i32 0, .float .f64 0, .float .f64 0, .float .f64 0, .float .f64 0, .bool false, .bool false, .bool false, .float .f64 0, .float .f64 0], 99) :: R := by
    simp only [RH, HB, z0R, slV, slH, w1, w2, w3, w4, F_zero]
    rfl
  rw [h]
  exact .swap ..
theorem run27 {w0 : World} {S : List Nat} (bM bH : Nat) (n : Nat) (A Alo Agl : Option Addr) (cl cLo cGl : Nat) (b : List Nat) (los gls : List (List Nat)) (pf : PSt) (hRB : RdB w0 S A b) (hcl : b.length ≤ cl) (hu : ∀ u ∈ b, u < 256) (hLo : RdL w0 S Alo los) (hGl : RdL w0 S Agl gls) (h3 : los.length ≤ 300 ∧ gls.length ≤ 300) (hF : Fl los gls n ⟨⟨0, 0, 0, 0, false, []⟩, [], 0, false, false, false, 0, 0⟩ b [] pf) (Mc : List Value) (hml : Mc.length = 593) (R : Heap) : ∀ w, Hp w0 S (RH bM bH (z0R A cl b Mc) ++ R) w → Calls Tryz.prog 27 [.pointer (some ⟨bM, 0, none⟩), .slice A b.length cl, (.slice Alo los.length cLo), (.slice Agl gls.length cGl), .iface 103 (.pointer (some ⟨bH, 0, none⟩))].toArray w (Out w0 S (fun z : RS => (∃ l, (pf.out = l.map IS.stk ∧ MvB l) ∧ z.q.out = pf.out ∧ z.q.bx = bnd (bpts l) ∧ slOk z.so z.q.out.length 7 (encG z.q.out)) ∧ BxBd z.q.bx (2000 * 128849018880)) (fun _ => .nilIface) (fun z => (bM, z.Mc, 95) :: (bH, (slV z.so z.q.out.length :: .float .f64 (w1 z.q.bx) :: .float .f64 (w2 z.q.bx) :: .float .f64 (w3 z.q.bx) :: .float .f64 (w4 z.q.bx) :: .int .i32 (z.vn : Nat) :: .int .i32 (z.hn : Nat) :: z.v7 :: .float .f64 (F z.q.x) :: .float .f64 (F z.q.y) :: .float .f64 (F z.q.fx) :: .float .f64 (F z.q.fy) :: .bool z.q.io :: .bool z.c.masked :: .bool (z.q.bx).isSome :: [.float .f64 (F 0), .float .f64 (F z.wq)]), 99) :: (R ++ slH z.so (encG z.q.out) 77))) := by
  intro w hw
  refine (out_headF (H1 := RH bM bH (z0R A cl b Mc)) (R := R) (fun w1 h0 h1 => f27_any w1 bM bH n Mc A Alo Agl cl cLo cGl b los gls pf hml (hRB.into (h0.appendL (H' := RH bM bH (z0R A cl b Mc)))) hcl hu (hLo.into (h0.appendL (H' := RH bM bH (z0R A cl b Mc)))) (hGl.into (h0.appendL (H' := RH bM bH (z0R A cl b Mc)))) h3 hF h1) w hw).mono ?_
  rintro e w' ⟨x, hx, he, hH⟩
  exact ⟨x, hx, he, hH.perm (.cons _ (.cons _ List.perm_append_comm))⟩
set_option maxHeartbeats 4000000 in
theorem f18_any (w : World) (bC b11 b13 : Nat) (n : Nat) (A Alo Agl : Option Addr) (cl cLo cGl : Nat) (b : List Nat) (los gls : List (List Nat)) (pf : PSt) (hRB : RdB w [bC, b11, b13] A b) (hcl : b.length ≤ cl) (hu : ∀ u ∈ b, u < 256) (hLo : RdL w [bC, b11, b13] Alo los) (hGl : RdL w [bC, b11, b13] Agl gls) (h3 : los.length ≤ 300 ∧ gls.length ≤ 300) (hF : Fl los gls n ⟨⟨0, 0, 0, 0, false, []⟩, [], 0, false, false, false, 0, 0⟩ b [] pf) (hw : Hp w [bC, b11, b13] [(bC, [.slice none 0 0, .nilIface, .slice none 0 0, .string ⟨#[]⟩, .slice (some ⟨b11, 0, none⟩) 1 1, .slice none 0 0, (.slice Agl gls.length cGl), .slice (some ⟨b13, 0, none⟩) 1 1], 69), (b11, [.slice A b.length cl], 22), (b13, [(.slice Alo los.length cLo)], 23)] w) : Calls Tryz.prog 18 [.pointer (some ⟨bC, 0, none⟩), .int .u16 0].toArray w (Out w [bC, b11, b13] (fun z : RS => (∃ l, (pf.out = l.map IS.stk ∧ MvB l) ∧ z.q.out = pf.out ∧ z.q.bx = bnd (bpts l) ∧ slOk z.so z.q.out.length 7 (encG z.q.out)) ∧ BxBd z.q.bx (2000 * 128849018880)) (fun z => .tuple #[slV z.so z.q.out.length, .agg #[.float .f64 (w1 z.q.bx), .float .f64 (w2 z.q.bx), .float .f64 (w3 z.q.bx), .float .f64 (w4 z.q.bx)], .nilIface]) (fun z => slH z.so (encG z.q.out) 77)) := by
 obtain ⟨Mc0, hz95, hml⟩ := ze95
 refine enter (n := 68) Tryz.func18 rfl rfl rfl hw ?_
 refine cR ?_
 refine lA rfl ?_
 refine l_gives rfl rfl (g_alloc ze_52) rfl ?_
 intro b5 hb5
 refine lA rfl ?_
 refine nQ ?_
 refine c_seq ?_
 refine cR ?_
 refine lM rfl ?_
 refine lV (y_conv cv_71_3 rfl (fitN (m := 0) (by omega) (by omega))) ?_
 refine lM rfl ?_
 refine lN rfl ?_
 refine lV (y_fieldAddr fo_69_4 rfl) ?_
 refine lV (y_load1 ld_23 rfl m1 rfl) ?_
 refine lV (y_len sl_23 rfl) ?_
 refine lB rfl rfl rfl rfl ?_
 refine nQ ?_
 refine c_false rfl (decide_eq_false (by omega)) ?_
 refine kR ?_
 refine l_gives rfl rfl (g_alloc hz95) rfl ?_
 intro b7 hb7
 refine nR ?_
 refine l_gives rfl rfl (g_alloc ze_99) rfl ?_
 intro b8 hb8
 refine l_nil ?_
 refine q_perm (zero99 A cl b Mc0 b7 b8 _) ?_
 refine qR ?_
 refine lA rfl ?_
 refine nR ?_
 refine lA rfl ?_
 refine nQ ?_
 refine c_seq ?_
 refine cR ?_
 refine lM rfl ?_
 refine lN rfl ?_
 refine lV (y_fieldAddr fo_69_1 rfl) ?_
 refine lV (y_load1 ld_66 rfl m3 rfl) ?_
 refine lV (y_neqNil66 rfl) ?_
 refine nQ ?_
 refine c_false rfl rfl ?_
 refine kR ?_
 refine lM rfl ?_
 refine lN rfl ?_
 refine lV (y_fieldAddr fo_69_7 rfl) ?_
 refine lV (y_load1 ld_63 rfl m3 rfl) ?_
 refine lM rfl ?_
 refine lV (y_indexAddr (j := 0) es_63 rfl rfl (by decide)) ?_
 refine lV (y_load1 ld_23 rfl m5 rfl) ?_
 refine lA rfl ?_
 refine nQ ?_
 refine c_seq ?_
 refine c_draw [(bC, [.slice none 0 0, .nilIface, .slice none 0 0, .string ⟨#[]⟩, .slice (some ⟨b11, 0, none⟩) 1 1, .slice none 0 0, (.slice Agl gls.length cGl), .slice (some ⟨b13, 0, none⟩) 1 1], 69), (b11, [.slice A b.length cl], 22), (b13, [(.slice Alo los.length cLo)], 23)] mixed rfl ?_
 refine dM 0 rfl rfl ?_
 refine dN 1 rfl rfl ?_
 refine dV 2 rfl (y_fieldAddr fo_69_4 rfl) ?_
 refine dV 3 rfl (y_load1 ld_23 rfl m0 rfl) ?_
 refine dM 4 rfl rfl ?_
 refine dV 5 rfl (y_indexAddr (j := 0) es_23 rfl rfl (by decide)) ?_
 refine dV 6 rfl (y_load1 ld_22 rfl m1 rfl) ?_
 refine dM 7 rfl rfl ?_
 refine dM 8 rfl rfl ?_
 refine dN 9 rfl rfl ?_
 refine dV 10 rfl (y_fieldAddr fo_69_6 rfl) ?_
 refine dV 11 rfl (y_load1 ld_23 rfl m0 rfl) ?_
 refine dV 12 rfl (y_iface ni_103 rfl) ?_
 refine d_ready (i := 13) (rs := []) (by kernel_rfl) (.cons (.there (.there (.there .here))) (.cons (.there (.there (.there .here))) (.cons (.there (.there (.there .here))) .nil))) (all_one ?_)
 refine o_call rfl (no_guard rfl) ok_27 rfl rfl (run27 b7 b8 n A Alo Agl cl cLo cGl b los gls pf hRB hcl hu hLo hGl h3 hF Mc0 hml _) ?_
 intro z ⟨⟨l, hz1, hz2, hz3, hz4⟩, hz5⟩
 refine dV 14 rfl (y_assign rfl) ?_
 refine d_end (by kernel_rfl) (.cons (.there (.there (.there .here))) (.cons (.there (.there (.there .here))) (.cons (.there (.there (.there .here))) .nil))) ?_
 refine q_then ?_
 refine c_seq ?_
 refine c_draw [(b8, (slV z.so z.q.out.length :: .float .f64 (w1 z.q.bx) :: .float .f64 (w2 z.q.bx) :: .float .f64 (w3 z.q.bx) :: .float .f64 (w4 z.q.bx) :: .int .i32 (z.vn : Nat) :: .int .i32 (z.hn : Nat) :: z.v7 :: .float .f64 (F z.q.x) :: .float .f64 (F z.q.y) :: .float .f64 (F z.q.fx) :: .float .f64 (F z.q.fy) :: .bool z.q.io :: .bool z.c.masked :: .bool (z.q.bx).isSome :: [.float .f64 (F 0), .float .f64 (F z.wq)]), 99)] mixed rfl ?_
 refine dV 0 rfl (y_fieldAddr fo_99_0 rfl) ?_
 refine dV 1 rfl (y_fieldAddr fo_97_0 rfl) ?_
 refine dV 2 rfl (y_load1 ld_48 rfl m0 rfl) ?_
 refine dV 3 rfl (y_fieldAddr fo_99_0 rfl) ?_
 refine dV 4 rfl (y_fieldAddr fo_97_1 rfl) ?_
 refine dV 5 rfl (y_loadN (vs := [_, _, _, _]) ld_52 rfl m0 rfl rfl) ?_
 refine dM 6 rfl rfl ?_
 refine dV 7 rfl (y_assign rfl) ?_
 refine d_ready (i := 8) (rs := []) (by kernel_rfl) (.cons (.there .here) .nil) (all_one ?_)
 refine o_does rfl rfl rfl (g_storeN (vs := [_, _, _, _]) (cs' := [_, _, _, _]) sz_52 rfl rfl rfl rfl rfl rfl rfl (.there (.there .here))) ?_
 intro _ _
 refine dV 9 rfl (y_assign rfl) ?_
 refine d_end (by kernel_rfl) (.cons (.there .here) .nil) ?_
 refine q_then ?_
 refine c_ret ?_
 exact body_ret (rs := [.tmp 4, .cell 5 52, .tmp 6]) rfl (vs := [slV z.so z.q.out.length, .agg #[.float .f64 (w1 z.q.bx), .float .f64 (w2 z.q.bx), .float .f64 (w3 z.q.bx), .float .f64 (w4 z.q.bx)], .nilIface]) ⟨rfl, ⟨_, _, _, _, rfl, (.tail _ (.tail _ (.head _))), .inr ⟨4, _, ld_52, rfl, rfl, rfl⟩⟩, rfl, trivial⟩ (out_end z ⟨⟨l, hz1, hz2, hz3, hz4⟩, hz5⟩ rfl (.skip (.skip (.skip (.skip (.skip (.skip .refl))))))) _ (.inr rfl)
set_option maxHeartbeats 4000000 in
theorem f10_any (w : World) (n : Nat) (A Alo Agl : Option Addr) (cl cLo cGl : Nat) (b : List Nat) (los gls : List (List Nat)) (pf : PSt) (hRB : RdB w [] A b) (hcl : b.length ≤ cl) (hu : ∀ u ∈ b, u < 256) (hLo : RdL w [] Alo los) (hGl : RdL w [] Agl gls) (h3 : los.length ≤ 300 ∧ gls.length ≤ 300) (hF : Fl los gls n ⟨⟨0, 0, 0, 0, false, []⟩, [], 0, false, false, false, 0, 0⟩ b [] pf) : Calls Tryz.prog 10 [.slice A b.length cl, (.slice Alo los.length cLo), (.slice Agl gls.length cGl)].toArray w (Out w [] (fun z : RS => (∃ l, (pf.out = l.map IS.stk ∧ MvB l) ∧ z.q.out = pf.out ∧ z.q.bx = bnd (bpts l) ∧ slOk z.so z.q.out.length 7 (encG z.q.out)) ∧ BxBd z.q.bx (2000 * 128849018880)) (fun z => .tuple #[slV z.so z.q.out.length, .agg #[.float .f64 (w1 z.q.bx), .float .f64 (w2 z.q.bx), .float .f64 (w3 z.q.bx), .float .f64 (w4 z.q.bx)], .nilIface]) (fun z => slH z.so (encG z.q.out) 77)) := by
 refine enter (n := 22) Tryz.func10 rfl rfl rfl (Hp.refl w) ?_
 refine cR ?_
 refine lA rfl ?_
 refine l_gives rfl rfl (g_alloc ze_52) rfl ?_
 intro b7 hb7
 refine lA rfl ?_
 refine nR ?_
 refine lM rfl ?_
 refine l_gives rfl rfl (g_buildSlice (cs := [_]) sl_23 sz_22 ze_22 rfl rfl rfl rfl (by simp [Value.cells]) rfl rfl) rfl ?_
 intro b11 hb11
 refine lM rfl ?_
 refine l_gives rfl rfl (g_buildSlice (cs := [_]) sl_63 sz_23 ze_23 rfl rfl rfl rfl (by simp [Value.cells]) rfl rfl) rfl ?_
 intro b13 hb13
 refine lM rfl ?_
 refine lV (y_build1 (out := [_, _, _, _, _, _, _, _]) bp_69 rfl rfl rfl) ?_
 refine l_gives rfl rfl (g_box (vs := [_, _, _, _, _, _, _, _]) rfl rfl) rfl ?_
 intro b16 hb16
 refine lA rfl ?_
 refine nR ?_
 refine lM rfl ?_
 refine l_perm (.cons _ (.swap ..)) ?_
 refine l_call ok_18 rfl rfl (out_headF (H1 := [(b16, [.slice none 0 0, .nilIface, .slice none 0 0, .string ⟨#[]⟩, .slice (some ⟨b11, 0, none⟩) 1 1, .slice none 0 0, (.slice Agl gls.length cGl), .slice (some ⟨b13, 0, none⟩) 1 1], 69), (b11, [.slice A b.length cl], 22), (b13, [(.slice Alo los.length cLo)], 23)]) (fun w1 h0 h1 => f18_any w1 b16 b11 b13 n A Alo Agl cl cLo cGl b los gls pf (hRB.into (h0.appendL (H' := [(b16, [.slice none 0 0, .nilIface, .slice none 0 0, .string ⟨#[]⟩, .slice (some ⟨b11, 0, none⟩) 1 1, .slice none 0 0, (.slice Agl gls.length cGl), .slice (some ⟨b13, 0, none⟩) 1 1], 69), (b11, [.slice A b.length cl], 22), (b13, [(.slice Alo los.length cLo)], 23)]))) hcl hu (hLo.into (h0.appendL (H' := [(b16, [.slice none 0 0, .nilIface, .slice none 0 0, .string ⟨#[]⟩, .slice (some ⟨b11, 0, none⟩) 1 1, .slice none 0 0, (.slice Agl gls.length cGl), .slice (some ⟨b13, 0, none⟩) 1 1], 69), (b11, [.slice A b.length cl], 22), (b13, [(.slice Alo los.length cLo)], 23)]))) (hGl.into (h0.appendL (H' := [(b16, [.slice none 0 0, .nilIface, .slice none 0 0, .string ⟨#[]⟩, .slice (some ⟨b11, 0, none⟩) 1 1, .slice none 0 0, (.slice Agl gls.length cGl), .slice (some ⟨b13, 0, none⟩) 1 1], 69), (b11, [.slice A b.length cl], 22), (b13, [(.slice Alo los.length cLo)], 23)]))) h3 hF h1)) ?_
 intro z ⟨⟨l, hz1, hz2, hz3, hz4⟩, hz5⟩
 refine l_perm List.perm_append_comm ?_
 refine lV (y_extract rfl rfl) ?_
 refine lV (y_extract rfl rfl) ?_
 refine lV (y_extract rfl rfl) ?_
 refine lA rfl ?_
 refine l_does rfl rfl (g_storeN (vs := [_, _, _, _]) (cs' := [_, _, _, _]) sz_52 rfl rfl rfl rfl rfl rfl rfl .here) ?_
 intro _ _
 refine lA rfl ?_
 refine nQ ?_
 refine c_ret ?_
 exact body_ret (rs := [.tmp 6, .cell 7 52, .tmp 8]) rfl (vs := [slV z.so z.q.out.length, .agg #[.float .f64 (w1 z.q.bx), .float .f64 (w2 z.q.bx), .float .f64 (w3 z.q.bx), .float .f64 (w4 z.q.bx)], .nilIface]) ⟨rfl, ⟨_, _, _, _, rfl, (.head _), .inr ⟨4, _, ld_52, rfl, rfl, rfl⟩⟩, rfl, trivial⟩ (out_end z ⟨⟨l, hz1, hz2, hz3, hz4⟩, hz5⟩ rfl (.skip .refl)) _ (.inr rfl)
theorem un75 : Tryz.prog.underlying 75 = some (.array 3 74) := by kernel_rfl
theorem un74 : (Tryz.prog.underlying 74).map (fun d => match d with | .struct _ => true | _ => false) = some true := by kernel_rfl
theorem in74 : (Tryz.prog.info? 74).map (·.size) = some 2 := by kernel_rfl
theorem part74 (cs : Array Value) (off : Nat) (w : World) : (part 74 cs off).run Tryz.prog w = .ok (.agg (cs.extract off (off + 2))) w := by
  have h := un74
  cases hu : Tryz.prog.underlying 74 with
  | none => rw [hu] at h; cases h
  | some u => rw [hu] at h; cases u <;> simp at h <;> simp [part, isAgg, run_underlying hu, run_size in74]
theorem y_index75 {n : Nat} {D : List Deferred} {w0 : World} {S : List Nat} {L : Slots} {H : Heap} {d : Option Tmp} {ty : TypeId} {pos : String} {af : Array Edge} {gd : Option (Nat × Bool)} {x i : Operand} {j : Nat} {cs out : List Value} (hj : j < 3) (hx : ev L x = some (.agg cs.toArray)) (hi : ev L i = some (.int .i64 (j : Int))) (ho : (cs.drop (j * 2)).take 2 = out) :
    Go.Eng.Yields Tryz.prog n D w0 S ⟨d, .index 75 x i, ty, pos, af, gd⟩ L H (.agg out.toArray) := by
  intro a w ha hw
  subst ho
  have h : cs.toArray.extract (j * 2) (j * 2 + 2) = ((cs.drop (j * 2)).take 2).toArray := by
    rw [List.extract_toArray, List.extract_eq_take_drop]
    congr 2
    omega
  have h1 : (0 : Int) ≤ (j : Int) ∧ (j : Int) < ((3 : Nat) : Int) := by omega
  have h2 : (Instr.index 75 (.agg cs.toArray) (.int .i64 (j : Int))).run Tryz.prog w = .ok (.agg ((cs.drop (j * 2)).take 2).toArray) w := by
    rw [← h]
    unfold Instr.index
    simp [asIntOf, run_underlying un75, run_size in74, part74, hj]
  simp only [execOp, ha.ev_eq hx, ha.ev_eq hi]
  simp only [Sem.run_bind, h2, Result.andThen_ok, Sem.run_pure]
theorem gcell_at : ∀ {l : List Stk} {i : Nat} {s : Stk}, l[i]? = some s → ∀ {j : Nat} {v : Value}, s.gcells[j]? = some v → (encG l)[i * 7 + j]? = some v
  | [], i, s, h, _, _, _ => by simp at h
  | x :: r, 0, s, h, j, v, hj => by
    simp at h
    subst h
    have hl : j < 7 := at_lt hj
    show (Stk.gcells x ++ encG r)[0 * 7 + j]? = _
    rw [Nat.zero_mul, Nat.zero_add, List.getElem?_append_left (by exact hl)]
    exact hj
  | x :: r, i + 1, s, h, j, v, hj => by
    show (Stk.gcells x ++ encG r)[(i + 1) * 7 + j]? = _
    have e : (Stk.gcells x).length = 7 := rfl
    rw [List.getElem?_append_right (by omega), e, show (i + 1) * 7 + j - 7 = i * 7 + j by omega]
    exact gcell_at (by simpa using h) hj
theorem scell_at : ∀ {l : List Stk} {i : Nat} {s : Stk}, l[i]? = some s → ∀ {j : Nat} {v : Value}, s.cells[j]? = some v → (encS l)[i * 7 + j]? = some v
  | [], i, s, h, _, _, _ => by simp at h
  | x :: r, 0, s, h, j, v, hj => by
    simp at h
    subst h
    have hl : j < 7 := at_lt hj
    show (Stk.cells x ++ encS r)[0 * 7 + j]? = _
    rw [Nat.zero_mul, Nat.zero_add, List.getElem?_append_left (by exact hl)]
    exact hj
  | x :: r, i + 1, s, h, j, v, hj => by
    show (Stk.cells x ++ encS r)[(i + 1) * 7 + j]? = _
    have e : (Stk.cells x).length = 7 := rfl
    rw [List.getElem?_append_right (by omega), e, show (i + 1) * 7 + j - 7 = i * 7 + j by omega]
    exact scell_at (by simpa using h) hj
/-- What a slice of one's own has, as memory that was there. -/
def RdX (w : World) (S : List Nat) (so : Sv) (xs : List Value) : Prop := ∀ g sp cap, so = some (g, sp, cap) → g < w.heap.size ∧ g ∉ S ∧ ∀ j v, xs[j]? = some v → w.cell? ⟨g, j, none⟩ = some v
theorem RdX.own {w0 w : World} {S : List Nat} {so : Sv} {xs : List Value} {e : TypeId} {H1 : Heap} (h : Hp w0 S (H1 ++ slH so xs e) w) : RdX w (H1.map (·.1)) so xs := by
  intro g sp cap hs
  subst hs
  have hp : Hp w0 S (slH (some (g, sp, cap)) xs e ++ H1) w := h.perm List.perm_append_comm
  refine ⟨hp.lt (.head _), ?_, fun j v hv => ?_⟩
  · have hnd := List.pairwise_cons.1 hp.nd
    intro hm
    obtain ⟨b, hb, he⟩ := List.mem_map.1 hm
    exact hnd.1 b hb he.symm
  · rw [hp.cell (.head _), List.getElem?_append_left (at_lt hv)]
    exact hv
def opOk (s : Stk) : Prop := 0 ≤ s.op ∧ s.op < 256
theorem fitZ {z : Int} (h : 0 ≤ z ∧ z < 256) : Value.int .i64 (IntKind.i64.wrap z) = .int .i64 z := fit64 (by omega) (by omega)
theorem sv_some {so : Sv} {m sz : Nat} {xs : List Value} (h : slOk so m sz xs) (hm : 0 < m) : ∃ g sp cap, so = some (g, sp, cap) := by
  cases so with
  | none => exact absurd h.2 (by omega)
  | some v => exact ⟨_, _, _, rfl⟩
set_option maxHeartbeats 4000000 in
theorem f11_any (w : World) (l : List Stk) (so : Sv) (hop : ∀ s ∈ l, opOk s) (hok : slOk so l.length 7 (encG l)) (hlen : l.length ≤ 70000) (hR : RdX w [] so (encG l)) : Calls Tryz.prog 11 [slV so l.length].toArray w (Out w [] (fun z : Sv => slOk z l.length 7 (encS l)) (fun z => slV z l.length) (fun z => slH z (encS l) 34)) := by
 refine enter (n := 41) Tryz.func11 rfl rfl rfl (Hp.refl w) ?_
 refine c_perm (H' := slH none (encS (l.take 0)) 34) (.refl _) ?_
 refine cR ?_
 refine lA rfl ?_
 refine nQ ?_
 refine c_seq ?_
 refine cR ?_
 refine lM rfl ?_
 refine lV (y_lenSv sl_48 rfl (slOk.nil hok)) ?_
 refine lM rfl ?_
 refine nQ ?_
 refine c_block ?_
 refine c_loop (ι := Nat × Sv) (φ := fun z => z.1 ≤ l.length ∧ slOk z.2 z.1 7 (encS (l.take z.1))) (L' := fun z => [(2, slV z.2 z.1), (8, slV so l.length), (9, .int .i64 (l.length : Nat)), (10, .int .i64 (z.1 : Nat))]) (H' := fun z => slH z.2 (encS (l.take z.1)) 34) (fun z => l.length - z.1) (0, none) ⟨Nat.zero_le _, ⟨rfl, rfl⟩⟩ ⟨rfl, rfl, rfl, rfl, trivial⟩ .refl ?_
 intro ⟨i, so2⟩ ⟨hi, hok2⟩
 simp only at hi hok2 ⊢
 refine cR ?_
 refine lB rfl rfl rfl rfl ?_
 refine nQ ?_
 refine c_seq ?_
 refine c_cond rfl (fun hc11 => ?_) (fun hc11 => ?_)
 ·have hlt : i < l.length := by simp only [decide_eq_true_eq] at hc11; omega
  obtain ⟨g, sp, cap, rfl⟩ := sv_some hok (by omega)
  obtain ⟨hg, _, hcell⟩ := hR g sp cap rfl
  obtain ⟨s, hs⟩ : ∃ s, l[i]? = some s := ⟨_, List.getElem?_eq_getElem hlt⟩
  have hos := hop s (List.mem_of_getElem? hs)
  have etk : l.take i ++ [s] = l.take (i + 1) := by rw [List.take_add_one, hs]; rfl
  refine kQ ?_
  refine c_seq ?_
  refine c_block ?_
  refine cR ?_
  refine lV (y_indexAddrOwn es_48 rfl rfl hlt) ?_
  refine lV (y_oldLoadN (vs := s.gcells) ld_77 rfl hg List.not_mem_nil rfl (fun j v hj => by rw [Addr.add_lit]; exact hcell _ _ (gcell_at hs hj))) ?_
  refine l_gives rfl rfl (g_alloc ze_77) rfl ?_
  intro b4 hb4
  refine l_does rfl rfl (g_storeN (vs := [_, _, _, _, _, _, _]) (cs' := [_, _, _, _, _, _, _]) sz_77 rfl rfl rfl rfl rfl rfl rfl .here) ?_
  intro _ _
  refine nR ?_
  refine lV (y_fieldAddr fo_77_0 rfl) ?_
  refine lV (y_load1 ld_72 rfl m0 rfl) ?_
  refine lV (y_conv cv_72_3 rfl (fitZ hos)) ?_
  refine lV (y_build1 (out := [_, _, _, _, _, _, _]) bp_34 rfl rfl rfl) ?_
  refine l_gives rfl rfl (g_alloc ze_34) rfl ?_
  intro b5 hb5
  refine l_does rfl rfl (g_storeN (vs := [_, _, _, _, _, _, _]) (cs' := [_, _, _, _, _, _, _]) sz_34 rfl rfl rfl rfl rfl rfl rfl .here) ?_
  intro _ _
  refine nQ ?_
  refine c_seq ?_
  refine cR ?_
  refine lV (y_fieldAddr fo_77_1 rfl) ?_
  refine lV (y_loadN (vs := [_, _, _, _, _, _]) ld_75 rfl m1 rfl rfl) ?_
  refine lM rfl ?_
  refine nQ ?_
  refine c_block ?_
  refine c_loopU ?_
  refine c_unroll ?_
  refine cR ?_
  refine lB rfl rfl rfl rfl ?_
  refine nQ ?_
  refine c_seq ?_
  refine c_true rfl rfl ?_
  refine kQ ?_
  refine c_seq ?_
  refine c_block ?_
  refine cR ?_
  refine lM rfl ?_
  refine lV (y_index75 (j := 0) (cs := [_, _, _, _, _, _]) (out := [_, _]) (by decide) rfl rfl rfl) ?_
  refine l_gives rfl rfl (g_alloc ze_74) rfl ?_
  intro b7_0 hb7_0
  refine lA rfl ?_
  refine l_does rfl rfl (g_storeN (vs := [_, _]) (cs' := [_, _]) sz_74 rfl rfl rfl rfl rfl rfl rfl .here) ?_
  intro _ _
  refine nQ ?_
  refine c_draw [(b7_0, [.float .f32 s.a0, .float .f32 s.b0], 74)] mixed rfl ?_
  refine dM 0 rfl rfl ?_
  refine dM 1 rfl rfl ?_
  refine dV 2 rfl (y_fieldAddr fo_74_0 rfl) ?_
  refine dV 3 rfl (y_load1 ld_28 rfl m0 rfl) ?_
  refine dV 4 rfl (y_fieldAddr fo_74_1 rfl) ?_
  refine dV 5 rfl (y_load1 ld_28 rfl m0 rfl) ?_
  refine dV 6 rfl (y_fieldAddr fo_34_1 rfl) ?_
  refine dV 7 rfl (y_indexArr (j := 0) ar_32 rfl rfl rfl) ?_
  refine dV 9 rfl (y_fieldAddr fo_34_2 rfl) ?_
  refine d_ready (i := 8) (rs := []) (by kernel_rfl) (.cons .here .nil) (all_one ?_)
  refine o_does rfl rfl rfl (g_store1 (cs' := [_, _, _, _, _, _, _]) sz_28 rfl rfl rfl rfl rfl rfl (.there .here)) ?_
  intro _ _
  refine dV 10 rfl (y_indexArr (j := 0) ar_32 rfl rfl rfl) ?_
  refine d_ready (i := 11) (rs := []) (by kernel_rfl) (.cons .here .nil) (all_one ?_)
  refine o_does rfl rfl rfl (g_store1 (cs' := [_, _, _, _, _, _, _]) sz_28 rfl rfl rfl rfl rfl rfl (.there .here)) ?_
  intro _ _
  refine d_end (by kernel_rfl) (.cons .here .nil) ?_
  refine q_block ?_
  refine qG ?_
  refine lV (y_bin rfl rfl rfl (fitN (m := 1) (by decide) (by decide))) ?_
  refine lM rfl ?_
  refine l_nil ?_
  refine q_unroll ?_
  refine c_unroll ?_
  refine cR ?_
  refine lB rfl rfl rfl rfl ?_
  refine nQ ?_
  refine c_seq ?_
  refine c_true rfl rfl ?_
  refine kQ ?_
  refine c_seq ?_
  refine c_block ?_
  refine cR ?_
  refine lM rfl ?_
  refine lV (y_index75 (j := 1) (cs := [_, _, _, _, _, _]) (out := [_, _]) (by decide) rfl rfl rfl) ?_
  refine l_gives rfl rfl (g_alloc ze_74) rfl ?_
  intro b7_1 hb7_1
  refine lA rfl ?_
  refine l_does rfl rfl (g_storeN (vs := [_, _]) (cs' := [_, _]) sz_74 rfl rfl rfl rfl rfl rfl rfl .here) ?_
  intro _ _
  refine nQ ?_
  refine c_draw [(b7_1, [.float .f32 s.a1, .float .f32 s.b1], 74)] mixed rfl ?_
  refine dM 0 rfl rfl ?_
  refine dM 1 rfl rfl ?_
  refine dV 2 rfl (y_fieldAddr fo_74_0 rfl) ?_
  refine dV 3 rfl (y_load1 ld_28 rfl m0 rfl) ?_
  refine dV 4 rfl (y_fieldAddr fo_74_1 rfl) ?_
  refine dV 5 rfl (y_load1 ld_28 rfl m0 rfl) ?_
  refine dV 6 rfl (y_fieldAddr fo_34_1 rfl) ?_
  refine dV 7 rfl (y_indexArr (j := 1) ar_32 rfl rfl rfl) ?_
  refine dV 9 rfl (y_fieldAddr fo_34_2 rfl) ?_
  refine d_ready (i := 8) (rs := []) (by kernel_rfl) (.cons .here .nil) (all_one ?_)
  refine o_does rfl rfl rfl (g_store1 (cs' := [_, _, _, _, _, _, _]) sz_28 rfl rfl rfl rfl rfl rfl (.there (.there .here))) ?_
  intro _ _
  refine dV 10 rfl (y_indexArr (j := 1) ar_32 rfl rfl rfl) ?_
  refine d_ready (i := 11) (rs := []) (by kernel_rfl) (.cons .here .nil) (all_one ?_)
  refine o_does rfl rfl rfl (g_store1 (cs' := [_, _, _, _, _, _, _]) sz_28 rfl rfl rfl rfl rfl rfl (.there (.there .here))) ?_
  intro _ _
  refine d_end (by kernel_rfl) (.cons .here .nil) ?_
  refine q_block ?_
  refine qG ?_
  refine lV (y_bin rfl rfl rfl (fitN (m := 2) (by decide) (by decide))) ?_
  refine lM rfl ?_
  refine l_nil ?_
  refine q_unroll ?_
  refine c_unroll ?_
  refine cR ?_
  refine lB rfl rfl rfl rfl ?_
  refine nQ ?_
  refine c_seq ?_
  refine c_true rfl rfl ?_
  refine kQ ?_
  refine c_seq ?_
  refine c_block ?_
  refine cR ?_
  refine lM rfl ?_
  refine lV (y_index75 (j := 2) (cs := [_, _, _, _, _, _]) (out := [_, _]) (by decide) rfl rfl rfl) ?_
  refine l_gives rfl rfl (g_alloc ze_74) rfl ?_
  intro b7_2 hb7_2
  refine lA rfl ?_
  refine l_does rfl rfl (g_storeN (vs := [_, _]) (cs' := [_, _]) sz_74 rfl rfl rfl rfl rfl rfl rfl .here) ?_
  intro _ _
  refine nQ ?_
  refine c_draw [(b7_2, [.float .f32 s.a2, .float .f32 s.b2], 74)] mixed rfl ?_
  refine dM 0 rfl rfl ?_
  refine dM 1 rfl rfl ?_
  refine dV 2 rfl (y_fieldAddr fo_74_0 rfl) ?_
  refine dV 3 rfl (y_load1 ld_28 rfl m0 rfl) ?_
  refine dV 4 rfl (y_fieldAddr fo_74_1 rfl) ?_
  refine dV 5 rfl (y_load1 ld_28 rfl m0 rfl) ?_
  refine dV 6 rfl (y_fieldAddr fo_34_1 rfl) ?_
  refine dV 7 rfl (y_indexArr (j := 2) ar_32 rfl rfl rfl) ?_
  refine dV 9 rfl (y_fieldAddr fo_34_2 rfl) ?_
  refine d_ready (i := 8) (rs := []) (by kernel_rfl) (.cons .here .nil) (all_one ?_)
  refine o_does rfl rfl rfl (g_store1 (cs' := [_, _, _, _, _, _, _]) sz_28 rfl rfl rfl rfl rfl rfl (.there (.there (.there .here)))) ?_
  intro _ _
  refine dV 10 rfl (y_indexArr (j := 2) ar_32 rfl rfl rfl) ?_
  refine d_ready (i := 11) (rs := []) (by kernel_rfl) (.cons .here .nil) (all_one ?_)
  refine o_does rfl rfl rfl (g_store1 (cs' := [_, _, _, _, _, _, _]) sz_28 rfl rfl rfl rfl rfl rfl (.there (.there (.there .here)))) ?_
  intro _ _
  refine d_end (by kernel_rfl) (.cons .here .nil) ?_
  refine q_block ?_
  refine qG ?_
  refine lV (y_bin rfl rfl rfl (fitN (m := 3) (by decide) (by decide))) ?_
  refine lM rfl ?_
  refine l_nil ?_
  refine q_unroll ?_
  refine c_unroll ?_
  refine cR ?_
  refine lB rfl rfl rfl rfl ?_
  refine nQ ?_
  refine c_seq ?_
  refine c_false rfl rfl ?_
  refine c_exit ?_
  refine q_then_exit ?_
  refine q_then_exit ?_
  refine q_block_exit ?_
  refine qG ?_
  refine lM rfl ?_
  refine lV (y_loadN (vs := [_, _, _, _, _, _, _]) ld_34 rfl m3 rfl rfl) ?_
  refine l_gives rfl rfl (g_buildSlice (cs := Stk.cells s ++ []) sl_25 sz_34 ze_34 rfl rfl rfl rfl (by simp [Value.cells, Stk.cells]) rfl rfl) rfl ?_
  intro b37 hb37
  refine l_gives rfl rfl (g_appendT (by_ := 32) (news := Stk.cells s) (sy := []) ([_, _, _, _, _, _]) sl_25 inf_34 rfl rfl rfl rfl (by decide) rfl rfl hok2 (by rfl) m0 rfl (Stk.one _) (by unfold maxLen; omega) (by omega)) rfl ?_
  intro so3 hok3
  rw [encS_snoc, etk] at hok3 ⊢
  refine lA rfl ?_
  refine l_nil ?_
  refine q_block ?_
  refine qG ?_
  refine lV (y_bin rfl rfl rfl (fitN (m := i + 1) (by omega) (by omega))) ?_
  refine lM rfl ?_
  refine l_nil ?_
  exact q_rnd (i + 1, so3) ⟨by simp only; omega, hok3⟩ (by simp only; omega) ⟨rfl, rfl, rfl, rfl, trivial⟩ (.skip (.skip (.skip (.skip (.skip (.skip .refl))))))
 ·have hin : i = l.length := by simp only [decide_eq_false_iff_not] at hc11; omega
  subst hin
  rw [List.take_length] at hok2 ⊢
  refine c_exit ?_
  refine q_then_exit ?_
  refine q_rnd_exit ?_
  refine q_block_exit ?_
  refine qR ?_
  refine lM rfl ?_
  refine lA rfl ?_
  refine nQ ?_
  refine c_ret ?_
  exact body_ret (rs := [.tmp 2]) rfl (vs := [slV so2 l.length]) ⟨rfl, trivial⟩ (out_end so2 hok2 rfl .refl) _ (.inr rfl)
def bi1 (bx : Bx) : Int := match bx with | none => 0 | some (a, _, _, _) => a
def bi2 (bx : Bx) : Int := match bx with | none => 0 | some (_, b, _, _) => b
def bi3 (bx : Bx) : Int := match bx with | none => 0 | some (_, _, c, _) => c
def bi4 (bx : Bx) : Int := match bx with | none => 0 | some (_, _, _, d) => d
theorem w1_F (bx : Bx) : w1 bx = F (bi1 bx) := by cases bx <;> simp only [w1, bi1, F_zero]
theorem w2_F (bx : Bx) : w2 bx = F (bi2 bx) := by cases bx <;> simp only [w2, bi2, F_zero]
theorem w3_F (bx : Bx) : w3 bx = F (bi3 bx) := by cases bx <;> simp only [w3, bi3, F_zero]
theorem w4_F (bx : Bx) : w4 bx = F (bi4 bx) := by cases bx <;> simp only [w4, bi4, F_zero]
theorem bi_bd {bx : Bx} {M : Nat} (h : BxBd bx M) : (bi1 bx).natAbs ≤ M ∧ (bi2 bx).natAbs ≤ M ∧ (bi3 bx).natAbs ≤ M ∧ (bi4 bx).natAbs ≤ M := by
  cases bx with
  | none => exact ⟨Nat.zero_le _, Nat.zero_le _, Nat.zero_le _, Nat.zero_le _⟩
  | some v => obtain ⟨a, b, c, d⟩ := v; exact h a b c d rfl
theorem RdL.empty {w0 w : World} {S : List Nat} {H : Heap} {A : Option Addr} {bss : List (List Nat)} (h : RdL w0 S A bss) (hw : Hp w0 S H w) : RdL w [] A bss := by
  intro i bs hi
  obtain ⟨⟨p, hp, hb, _, Ai, ci, hc, hB, hl⟩, hu⟩ := h.into hw i bs hi
  exact ⟨⟨p, hp, hb, List.not_mem_nil, Ai, ci, hc, fun i u hu => (by obtain ⟨p, h1, h2, _, h3⟩ := hB i u hu; exact ⟨p, h1, h2, List.not_mem_nil, h3⟩), hl⟩, hu⟩
theorem RdX.weak {w : World} {S : List Nat} {so : Sv} {xs : List Value} (h : RdX w S so xs) : RdX w [] so xs := fun g sp cap hs => ⟨(h g sp cap hs).1, List.not_mem_nil, (h g sp cap hs).2.2⟩
theorem out_drop {P : Program} {w0 : World} {S : List Nat} {f : Nat} {args : Array Value} {ι : Type} {φ : ι → Prop} {vv : ι → Value} {B T : Heap} {H2 : ι → Heap}
    (hc : ∀ w, Hp w0 S (B ++ T) w → Calls P f args w (Out w [] φ vv H2)) : ∀ w, Hp w0 S (B ++ T) w → Calls P f args w (Out w0 S φ vv (fun x => B ++ H2 x)) := by
  intro w hw
  refine (out_new hc w hw).mono ?_
  rintro e w' ⟨x, hx, he, hH⟩
  refine ⟨x, hx, he, Hp.appendL (R := T) (hH.perm ?_)⟩
  show (B ++ T ++ H2 x).Perm (B ++ H2 x ++ T)
  rw [List.append_assoc, List.append_assoc]
  exact List.perm_append_comm.append_left B
theorem strokesL {w0 : World} {S : List Nat} (B : Heap) (l : List Stk) (so : Sv) (hop : ∀ s ∈ l, opOk s) (hok : slOk so l.length 7 (encG l)) (hlen : l.length ≤ 70000) : ∀ w, Hp w0 S (B ++ slH so (encG l) 77) w → Calls Tryz.prog 11 [slV so l.length].toArray w (Out w0 S (fun z : Sv => slOk z l.length 7 (encS l)) (fun z => slV z l.length) (fun z => B ++ slH z (encS l) 34)) :=
  out_drop (fun w1 h1 => f11_any w1 l so hop hok hlen (RdX.own h1).weak)
theorem IS.opOk : ∀ t : IS, opOk t.stk
  | .mv _ _ => ⟨(by decide : (0 : Int) ≤ 0), (by decide : (0 : Int) < 256)⟩
  | .ln _ _ => ⟨(by decide : (0 : Int) ≤ 1), (by decide : (1 : Int) < 256)⟩
  | .cv _ _ _ _ _ _ => ⟨(by decide : (0 : Int) ≤ 3), (by decide : (3 : Int) < 256)⟩
set_option maxHeartbeats 4000000 in
theorem f6_any (w : World) (n : Nat) (A Alo Agl : Option Addr) (cl cLo cGl : Nat) (b : List Nat) (los gls : List (List Nat)) (pf : PSt) (hRB : RdB w [] A b) (hcl : b.length ≤ cl) (hu : ∀ u ∈ b, u < 256) (hLo : RdL w [] Alo los) (hGl : RdL w [] Agl gls) (h3 : los.length ≤ 300 ∧ gls.length ≤ 300) (hF : Fl los gls n ⟨⟨0, 0, 0, 0, false, []⟩, [], 0, false, false, false, 0, 0⟩ b [] pf) (hpl : pf.out.length ≤ 70000) : Calls Tryz.prog 6 [.slice A b.length cl, (.slice Alo los.length cLo), (.slice Agl gls.length cGl)].toArray w (Out w [] (fun z : Sv × Bx => (∃ l, (pf.out = l.map IS.stk ∧ MvB l) ∧ z.2 = bnd (bpts l)) ∧ slOk z.1 pf.out.length 7 (encS pf.out) ∧ BxBd z.2 (2000 * 128849018880)) (fun z => .tuple #[slV z.1 pf.out.length, .agg #[.float .f32 (G (bi1 z.2)), .float .f32 (G (bi2 z.2)), .float .f32 (G (bi3 z.2)), .float .f32 (G (bi4 z.2))], .bool true]) (fun z => slH z.1 (encS pf.out) 34)) := by
 refine enter (n := 42) Tryz.func6 rfl rfl rfl (Hp.refl w) ?_
 refine cR ?_
 refine lA rfl ?_
 refine l_gives rfl rfl (g_alloc ze_29) rfl ?_
 intro b7 hb7
 refine lA rfl ?_
 refine nR ?_
 refine lM rfl ?_
 refine lM rfl ?_
 refine lM rfl ?_
 refine l_call ok_10 rfl rfl (out_new (fun w1 hw1 => f10_any w1 n A Alo Agl cl cLo cGl b los gls pf (hRB.empty hw1) hcl hu (hLo.empty hw1) (hGl.empty hw1) h3 hF)) ?_
 intro z ⟨⟨l, hz1, hz2, hz3, hz4⟩, hz5⟩
 rw [hz2] at hz4 ⊢
 rw [w1_F, w2_F, w3_F, w4_F]
 obtain ⟨n1, n2, n3, n4⟩ := bi_bd hz5
 have hop : ∀ s ∈ pf.out, opOk s := by intro s hs; rw [hz1.1] at hs; obtain ⟨t, _, rfl⟩ := List.mem_map.1 hs; exact t.opOk
 refine lM rfl ?_
 refine lV (y_extract rfl rfl) ?_
 refine lV (y_extract rfl rfl) ?_
 refine lV (y_extract rfl rfl) ?_
 refine l_gives rfl rfl (g_alloc ze_52) rfl ?_
 intro b10 hb10
 refine lA rfl ?_
 refine l_does rfl rfl (g_storeN (vs := [_, _, _, _]) (cs' := [_, _, _, _]) sz_52 rfl rfl rfl rfl rfl rfl rfl .here) ?_
 intro _ _
 refine lA rfl ?_
 refine nQ ?_
 refine c_seq ?_
 refine cR ?_
 refine lM rfl ?_
 refine lV (y_neqNil rfl) ?_
 refine nQ ?_
 refine c_false rfl rfl ?_
 refine kQ ?_
 refine c_seq ?_
 refine c_draw [(b10, [.float .f64 (F (bi1 z.q.bx)), .float .f64 (F (bi2 z.q.bx)), .float .f64 (F (bi3 z.q.bx)), .float .f64 (F (bi4 z.q.bx))], 52)] mixed rfl ?_
 refine dM 0 rfl rfl ?_
 refine dV 2 rfl (y_fieldAddr fo_52_0 rfl) ?_
 refine dV 3 rfl (y_fieldAddr fo_50_0 rfl) ?_
 refine dV 4 rfl (y_load1 ld_41 rfl m0 rfl) ?_
 refine dV 5 rfl (y_convFF cf_41_28 rfl (by omega)) ?_
 refine dV 6 rfl (y_fieldAddr fo_52_0 rfl) ?_
 refine dV 7 rfl (y_fieldAddr fo_50_1 rfl) ?_
 refine dV 8 rfl (y_load1 ld_41 rfl m0 rfl) ?_
 refine dV 9 rfl (y_convFF cf_41_28 rfl (by omega)) ?_
 refine dV 10 rfl (y_fieldAddr fo_52_1 rfl) ?_
 refine dV 11 rfl (y_fieldAddr fo_50_0 rfl) ?_
 refine dV 12 rfl (y_load1 ld_41 rfl m0 rfl) ?_
 refine dV 13 rfl (y_convFF cf_41_28 rfl (by omega)) ?_
 refine dV 14 rfl (y_fieldAddr fo_52_1 rfl) ?_
 refine dV 15 rfl (y_fieldAddr fo_50_1 rfl) ?_
 refine dV 16 rfl (y_load1 ld_41 rfl m0 rfl) ?_
 refine dV 17 rfl (y_convFF cf_41_28 rfl (by omega)) ?_
 refine dV 18 rfl (y_buildArr (out := [_, _, _, _]) apl_29 rfl rfl rfl) ?_
 refine d_ready (i := 1) (rs := []) (by kernel_rfl) (.cons .here .nil) (all_one ?_)
 refine o_call rfl (no_guard rfl) ok_11 rfl rfl (strokesL [_, _] pf.out z.so hop hz4 hpl) ?_
 intro so2 hok2
 refine dV 19 rfl (y_assign rfl) ?_
 refine d_ready (i := 20) (rs := []) (by kernel_rfl) (.cons .here .nil) (all_one ?_)
 refine o_does rfl rfl rfl (g_storeN (vs := [_, _, _, _]) (cs' := [_, _, _, _]) sz_29 rfl rfl rfl rfl rfl rfl rfl (.there .here)) ?_
 intro _ _
 refine dV 21 rfl (y_assign rfl) ?_
 refine d_end (by kernel_rfl) (.cons .here .nil) ?_
 refine q_then ?_
 refine c_ret ?_
 exact body_ret (rs := [.tmp 6, .cell 7 29, .tmp 8]) rfl (vs := [slV so2 pf.out.length, .agg #[.float .f32 (G (bi1 z.q.bx)), .float .f32 (G (bi2 z.q.bx)), .float .f32 (G (bi3 z.q.bx)), .float .f32 (G (bi4 z.q.bx))], .bool true]) ⟨rfl, ⟨_, _, _, _, rfl, (.tail _ (.head _)), .inr ⟨4, _, ld_29, rfl, rfl, rfl⟩⟩, rfl, trivial⟩ (out_end ((so2, z.q.bx) : Sv × Bx) ⟨⟨l, hz1, hz3⟩, hok2, hz5⟩ rfl (.skip (.skip .refl))) _ (.inr rfl)
end Go.Proofs.YtbepljmeflndkaaGreatDoor
